/- Internal keys: the successor, at the comparer. -/
import Derived.Test.YtpdibidfjhjoeaaDoorIkSucc
namespace Go.Proofs.YtpdibidfjhjoeaaDoor.Ik
open Go.RowKit Go.Proofs.YtpdibidfjhjoeaaDoorW.PrintWords Go.Proofs.YtpdibidfjhjoeaaDoorW.PrintMore Go.Proofs.YtpdibidfjhjoeaaDoor.Cmp Go.Proofs.YtpdibidfjhjoeaaDoor.Run Go.Proofs.YtpdibidfjhjoeaaDoor.Con Go.Proofs.YtpdibidfjhjoeaaDoor.Le Go.Proofs.YtpdibidfjhjoeaaDoor.Sep Go.Proofs.YtpdibidfjhjoeaaDoor.SepPlain
set_option linter.unusedVariables false

theorem nil_eq (wx : World) (a : Option Addr) (n c : Nat) : (binOp .eql 22 (.slice a n c) (.slice none 0 0)).run Tryd.prog wx = .ok (.bool a.isNone) wx := Lib.run_eql_slice_nil wx 22 5 a n c 0 0 Tryd.underlying22

set_option maxHeartbeats 400000 in
set_option maxRecDepth 100000 in
theorem iSucc_none {w : World} {p : Addr} (hp : w.cell? p = some dflt) {B : Option Addr} {cb m : Nat} {lb : List Int}
    (hb : Kd.C (Kd.int .u8) w B (m + 8) lb) (hcb : m + 8 ≤ cb) (bb : Byt lb) (h : succI (lb.take m) = none) :
    Calls Tryd.prog 42 #[.pointer (some p), .slice none 0 0, .slice B (m + 8) cb] w fun e w' => e = .returned (.slice none 0 0) ∧ Below w.heap.size w w' := by
  have hT := C_head hb m (by omega)
  have el : (lb.take m).length = m := Kd.C_len hT
  have hK := ukey_calls hb (by omega) hcb
  rw [Nat.add_sub_cancel] at hK
  have hS := fun (w1 : World) (hb1 : Below w.heap.size w w1) => uSuccessor_none (cb := cb) (pw_cell_below hb1 hp) (lb := lb.take m) (by rw [el]; exact Kd.C_below hT hb1) (by rw [el]; omega) (byt_take bb m) h
  rw [el] at hS
  clear hb bb h hT el hp
  go_enter Tryd.func42, Tryd.ntmps42
  go_wp2_with fail
  refine hK.mono ?_
  rintro e w1 ⟨rfl, hb1⟩
  go_wp2_with fail
  refine (hS w1 hb1).mono ?_
  rintro e w2 ⟨rfl, hb2⟩
  go_wp2
  go_ret
  exact ⟨rfl, below_then hb1 hb1.size hb2⟩

set_option maxHeartbeats 400000 in
set_option maxRecDepth 100000 in
theorem iSucc_long {w : World} {p : Addr} (hp : w.cell? p = some dflt) {B : Option Addr} {cb m : Nat} {lb s : List Int}
    (hb : Kd.C (Kd.int .u8) w B (m + 8) lb) (hcb : m + 8 ≤ cb) (bb : Byt lb) (h : succI (lb.take m) = some s) (hm : m ≤ 4294967296) (hl : ¬ s.length < m) :
    Calls Tryd.prog 42 #[.pointer (some p), .slice none 0 0, .slice B (m + 8) cb] w fun e w' => e = .returned (.slice none 0 0) ∧ Below w.heap.size w w' := by
  have hT := C_head hb m (by omega)
  have el : (lb.take m).length = m := Kd.C_len hT
  have hK := ukey_calls hb (by omega) hcb
  rw [Nat.add_sub_cancel] at hK
  have hn := (succI_len _ _ h).1
  have hS := fun (w1 : World) (hb1 : Below w.heap.size w w1) => uSuccessor_some w.heap.size hb1.size (cb := cb) (pw_cell_below hb1 hp) (lb := lb.take m) (by rw [el]; exact Kd.C_below hT hb1) (by rw [el]; omega) (byt_take bb m) h (by rw [el]; exact hm)
  rw [el] at hS
  clear hb bb h hT el hp
  go_enter Tryd.func42, Tryd.ntmps42
  go_wp2_with fail
  refine hK.mono ?_
  rintro e w1 ⟨rfl, hb1⟩
  go_wp2_with fail
  refine (hS w1 hb1).mono ?_
  rintro e w2 ⟨v2, rfl, ho2, hb2⟩
  obtain ⟨g2, c2, rfl, _⟩ := own_form ho2 hn
  go_wp2
  go_ret
  exact ⟨rfl, hb1.trans hb2⟩

/-- the number behind a shortened key -/
def maxNum : List Int := [1, 255, 255, 255, 255, 255, 255, 255]

set_option maxHeartbeats 400000 in
set_option maxRecDepth 100000 in
theorem iSucc_some {w : World} {p : Addr} (hp : w.cell? p = some dflt) {B : Option Addr} {cb m : Nat} {lb s : List Int}
    (hb : Kd.C (Kd.int .u8) w B (m + 8) lb) (hcb : m + 8 ≤ cb) (bb : Byt lb) (h : succI (lb.take m) = some s) (hm : m ≤ 4294967296) (hl : s.length < m) (bs : Byt s) :
    Calls Tryd.prog 42 #[.pointer (some p), .slice none 0 0, .slice B (m + 8) cb] w (SomeRow w.heap.size w (s ++ maxNum)) := by
  have hT := C_head hb m (by omega)
  have el : (lb.take m).length = m := Kd.C_len hT
  have hK := ukey_calls hb (by omega) hcb
  rw [Nat.add_sub_cancel] at hK
  have hn := (succI_len _ _ h).1
  have hc := succI_behind _ _ h
  have hS := fun (w1 : World) (hb1 : Below w.heap.size w w1) => uSuccessor_some w.heap.size hb1.size (cb := cb) (pw_cell_below hb1 hp) (lb := lb.take m) (by rw [el]; exact Kd.C_below hT hb1) (by rw [el]; omega) (byt_take bb m) h (by rw [el]; exact hm)
  rw [el] at hS
  have hU := fun (w2 : World) (X : Option Addr) (cx : Nat) (hb2 : Below w.heap.size w w2) (hX : Kd.C (Kd.int .u8) w2 X s.length s) => uCompare_calls (c := cb) (d := cx) (pw_cell_below hb2 hp) (Kd.C_below hT hb2) hX (byt_take bb m) bs
  clear hb bb h hT el hp
  generalize cmpI (lb.take m) s = r at *
  go_enter Tryd.func42, Tryd.ntmps42
  go_wp2_with fail
  refine hK.mono ?_
  rintro e w1 ⟨rfl, hb1⟩
  go_wp2_with fail
  refine (hS w1 hb1).mono ?_
  rintro e w2 ⟨v2, rfl, ho2, hb2'⟩
  obtain ⟨g2, c2, rfl, _⟩ := own_form ho2 hn
  have hb2 := hb1.trans hb2'
  obtain ⟨A2, c2', e2, hr2, hc2⟩ := own_C ho2
  injection e2 with eA _ ec
  subst eA ec
  go_wp2_with fail
  refine (hU w2 _ _ hb2 hr2).mono ?_
  rintro e w3 ⟨rfl, hb3'⟩
  have ho3 := Lib.hid (pw_own_below ho2 hb3')
  have hb3 := Lib.hid (below_then hb2 hb2.size hb3')
  have hsz : w.heap.size ≤ w3.heap.size := hb3.out.size
  have hsl : s.length + 8 ≤ 140737488355328 := by omega
  have hu9 : Tryd.prog.underlying 9 = some .string := Tryd.underlying9
  clear ho2 hb3' hb2' hr2
  go_wp2_with (at_builtin; go_loud (refine print_append_str w.heap.size rfl (.tmp 30) (.const (.string ⟨#[1, 255, 255, 255, 255, 255, 255, 255]⟩)) 22 9 5 rfl Tryd.underlying22 hu9 info_u8 _ s _ rfl rfl ho3.out hb3.out hsz (by exact hsl) ?_); intro v4 w4 ho4 hb4 _)
  go_ret
  exact ⟨v4, rfl, ho4, hb4⟩

end Go.Proofs.YtpdibidfjhjoeaaDoor.Ik
