/- Internal keys: the separator, at the comparer. -/
import Derived.Test.YtpdibidfjhjoeaaDoorIkSuccB
namespace Go.Proofs.YtpdibidfjhjoeaaDoor.Ik
open Go.RowKit Go.Proofs.YtpdibidfjhjoeaaDoorW.PrintWords Go.Proofs.YtpdibidfjhjoeaaDoorW.PrintMore Go.Proofs.YtpdibidfjhjoeaaDoor.Cmp Go.Proofs.YtpdibidfjhjoeaaDoor.Run Go.Proofs.YtpdibidfjhjoeaaDoor.Con Go.Proofs.YtpdibidfjhjoeaaDoor.Le Go.Proofs.YtpdibidfjhjoeaaDoor.Sep Go.Proofs.YtpdibidfjhjoeaaDoor.SepPlain
set_option linter.unusedVariables false

set_option maxHeartbeats 400000 in
set_option maxRecDepth 100000 in
theorem iSep_none {w : World} {p : Addr} (hp : w.cell? p = some dflt) {A : Option Addr} {ca m : Nat} {la : List Int} {B : Option Addr} {cb q : Nat} {lb : List Int}
    (ha : Kd.C (Kd.int .u8) w A (m + 8) la) (hca : m + 8 ≤ ca) (ba : Byt la) (hb : Kd.C (Kd.int .u8) w B (q + 8) lb) (hcb : q + 8 ≤ cb) (bb : Byt lb) (h : sepI (la.take m) (lb.take q) = none) :
    Calls Tryd.prog 43 #[.pointer (some p), .slice none 0 0, .slice A (m + 8) ca, .slice B (q + 8) cb] w fun e w' => e = .returned (.slice none 0 0) ∧ Below w.heap.size w w' := by
  have hT := C_head ha m (by omega)
  have el : (la.take m).length = m := Kd.C_len hT
  have hQ := C_head hb q (by omega)
  have eq : (lb.take q).length = q := Kd.C_len hQ
  have hK := fun (w1 : World) (hb1 : Below w.heap.size w w1) => ukey_calls (Kd.C_below ha hb1) (by omega) hca
  have hK2 := fun (w1 : World) (hb1 : Below w.heap.size w w1) => ukey_calls (Kd.C_below hb hb1) (by omega) hcb
  rw [Nat.add_sub_cancel] at hK hK2
  have hS := fun (w1 : World) (hb1 : Below w.heap.size w w1) => uSeparator_none (ca := ca) (cb := cb) (pw_cell_below hb1 hp) (la := la.take m) (lb := lb.take q) (by rw [el]; exact Kd.C_below hT hb1) (by rw [eq]; exact Kd.C_below hQ hb1) (by rw [el]; omega) (byt_take ba m) (byt_take bb q) h
  rw [el, eq] at hS
  clear ha ba hb bb h hT hQ el eq hp
  go_enter Tryd.func43, Tryd.ntmps43
  go_wp2_with fail
  refine (hK w (Below.refl _ _)).mono ?_
  rintro e w0 ⟨rfl, hb0⟩
  go_wp2_with fail
  refine (hK2 w0 hb0).mono ?_
  rintro e w1 ⟨rfl, hb1'⟩
  have hb1 := below_then hb0 hb0.size hb1'
  clear hb1'
  go_wp2_with fail
  refine (hS w1 hb1).mono ?_
  rintro e w2 ⟨rfl, hb2⟩
  go_wp2
  go_ret
  exact ⟨rfl, below_then hb1 hb1.size hb2⟩

set_option maxHeartbeats 400000 in
set_option maxRecDepth 100000 in
theorem iSep_long {w : World} {p : Addr} (hp : w.cell? p = some dflt) {A : Option Addr} {ca m : Nat} {la : List Int} {B : Option Addr} {cb q : Nat} {lb s : List Int}
    (ha : Kd.C (Kd.int .u8) w A (m + 8) la) (hca : m + 8 ≤ ca) (ba : Byt la) (hb : Kd.C (Kd.int .u8) w B (q + 8) lb) (hcb : q + 8 ≤ cb) (bb : Byt lb) (h : sepI (la.take m) (lb.take q) = some s) (hm : m ≤ 4294967296) (hl : ¬ s.length < m) :
    Calls Tryd.prog 43 #[.pointer (some p), .slice none 0 0, .slice A (m + 8) ca, .slice B (q + 8) cb] w fun e w' => e = .returned (.slice none 0 0) ∧ Below w.heap.size w w' := by
  have hT := C_head ha m (by omega)
  have el : (la.take m).length = m := Kd.C_len hT
  have hQ := C_head hb q (by omega)
  have eq : (lb.take q).length = q := Kd.C_len hQ
  have hK := fun (w1 : World) (hb1 : Below w.heap.size w w1) => ukey_calls (Kd.C_below ha hb1) (by omega) hca
  have hK2 := fun (w1 : World) (hb1 : Below w.heap.size w w1) => ukey_calls (Kd.C_below hb hb1) (by omega) hcb
  rw [Nat.add_sub_cancel] at hK hK2
  have hn := (sepI_len _ _ _ h).1
  have hS := fun (w1 : World) (hb1 : Below w.heap.size w w1) => uSeparator_some w.heap.size hb1.size (ca := ca) (cb := cb) (pw_cell_below hb1 hp) (la := la.take m) (lb := lb.take q) (by rw [el]; exact Kd.C_below hT hb1) (by rw [eq]; exact Kd.C_below hQ hb1) (by rw [el]; omega) (byt_take ba m) (byt_take bb q) h (by rw [el]; exact hm)
  rw [el, eq] at hS
  clear ha ba hb bb h hT hQ el eq hp
  go_enter Tryd.func43, Tryd.ntmps43
  go_wp2_with fail
  refine (hK w (Below.refl _ _)).mono ?_
  rintro e w0 ⟨rfl, hb0⟩
  go_wp2_with fail
  refine (hK2 w0 hb0).mono ?_
  rintro e w1 ⟨rfl, hb1'⟩
  have hb1 := below_then hb0 hb0.size hb1'
  clear hb1'
  go_wp2_with fail
  refine (hS w1 hb1).mono ?_
  rintro e w2 ⟨v2, rfl, ho2, hb2⟩
  obtain ⟨g2, c2, rfl, _⟩ := own_form ho2 hn
  go_wp2
  go_ret
  exact ⟨rfl, hb1.trans hb2⟩

set_option maxHeartbeats 400000 in
set_option maxRecDepth 100000 in
theorem iSep_some {w : World} {p : Addr} (hp : w.cell? p = some dflt) {A : Option Addr} {ca m : Nat} {la : List Int} {B : Option Addr} {cb q : Nat} {lb s : List Int}
    (ha : Kd.C (Kd.int .u8) w A (m + 8) la) (hca : m + 8 ≤ ca) (ba : Byt la) (hb : Kd.C (Kd.int .u8) w B (q + 8) lb) (hcb : q + 8 ≤ cb) (bb : Byt lb) (h : sepI (la.take m) (lb.take q) = some s) (hm : m ≤ 4294967296) (hl : s.length < m) (bs : Byt s) :
    Calls Tryd.prog 43 #[.pointer (some p), .slice none 0 0, .slice A (m + 8) ca, .slice B (q + 8) cb] w (SomeRow w.heap.size w (s ++ maxNum)) := by
  have hT := C_head ha m (by omega)
  have el : (la.take m).length = m := Kd.C_len hT
  have hQ := C_head hb q (by omega)
  have eq : (lb.take q).length = q := Kd.C_len hQ
  have hK := fun (w1 : World) (hb1 : Below w.heap.size w w1) => ukey_calls (Kd.C_below ha hb1) (by omega) hca
  have hK2 := fun (w1 : World) (hb1 : Below w.heap.size w w1) => ukey_calls (Kd.C_below hb hb1) (by omega) hcb
  rw [Nat.add_sub_cancel] at hK hK2
  have hn := (sepI_len _ _ _ h).1
  have hc := (sepI_between _ _ _ h).1
  have hS := fun (w1 : World) (hb1 : Below w.heap.size w w1) => uSeparator_some w.heap.size hb1.size (ca := ca) (cb := cb) (pw_cell_below hb1 hp) (la := la.take m) (lb := lb.take q) (by rw [el]; exact Kd.C_below hT hb1) (by rw [eq]; exact Kd.C_below hQ hb1) (by rw [el]; omega) (byt_take ba m) (byt_take bb q) h (by rw [el]; exact hm)
  rw [el, eq] at hS
  have hU := fun (w2 : World) (X : Option Addr) (cx : Nat) (hb2 : Below w.heap.size w w2) (hX : Kd.C (Kd.int .u8) w2 X s.length s) => uCompare_calls (c := ca) (d := cx) (pw_cell_below hb2 hp) (Kd.C_below hT hb2) hX (byt_take ba m) bs
  clear ha ba hb bb h hT hQ el eq hp
  generalize cmpI (la.take m) s = r at *
  go_enter Tryd.func43, Tryd.ntmps43
  go_wp2_with fail
  refine (hK w (Below.refl _ _)).mono ?_
  rintro e w0 ⟨rfl, hb0⟩
  go_wp2_with fail
  refine (hK2 w0 hb0).mono ?_
  rintro e w1 ⟨rfl, hb1'⟩
  have hb1 := below_then hb0 hb0.size hb1'
  clear hb1'
  go_wp2_with fail
  refine (hS w1 hb1).mono ?_
  rintro e w2 ⟨v2, rfl, ho2, hb2'⟩
  obtain ⟨g2, c2, rfl, _⟩ := own_form ho2 hn
  have hb2 := hb1.trans hb2'
  obtain ⟨A2, c2', e2, hr2, hc2⟩ := own_C ho2
  injection e2 with eA _ ec
  subst eA ec
  go_wp2_with fail
  refine (hU w2 _ _ hb2 hr2).mono ?_
  rintro e w3 ⟨rfl, hb3'⟩
  have ho3 := Lib.hid (pw_own_below ho2 hb3')
  have hb3 := Lib.hid (below_then hb2 hb2.size hb3')
  have hsz : w.heap.size ≤ w3.heap.size := hb3.out.size
  have hsl : s.length + 8 ≤ 140737488355328 := by omega
  have hu9 : Tryd.prog.underlying 9 = some .string := Tryd.underlying9
  clear ho2 hb3' hb2' hr2
  go_wp2_with (at_builtin; go_loud (refine print_append_str w.heap.size rfl (.tmp 36) (.const (.string ⟨#[1, 255, 255, 255, 255, 255, 255, 255]⟩)) 22 9 5 rfl Tryd.underlying22 hu9 info_u8 _ s _ rfl rfl ho3.out hb3.out hsz (by exact hsl) ?_); intro v4 w4 ho4 hb4 _)
  go_ret
  exact ⟨v4, rfl, ho4, hb4⟩

end Go.Proofs.YtpdibidfjhjoeaaDoor.Ik
