/- Internal keys compared. -/
import Derived.Test.YtpdibidfjhjoeaaDoorIkDoor
namespace Go.Proofs.YtpdibidfjhjoeaaDoor.Ik
open Go.RowKit Go.Proofs.YtpdibidfjhjoeaaDoorW.PrintWords Go.Proofs.YtpdibidfjhjoeaaDoorW.PrintMore Go.Proofs.YtpdibidfjhjoeaaDoor.Cmp Go.Proofs.YtpdibidfjhjoeaaDoor.Run Go.Proofs.YtpdibidfjhjoeaaDoor.Con Go.Proofs.YtpdibidfjhjoeaaDoor.Le Go.Proofs.YtpdibidfjhjoeaaDoor.Sep
set_option linter.unusedVariables false

/-- the default comparer, as an interface value -/
def dflt : Value := .iface 51 (.agg #[])

set_option maxHeartbeats 1600000 in
set_option maxRecDepth 100000 in
theorem GetComparer_calls (w : World) :
    Calls Tryd.prog 48 #[.pointer none] w fun e w' => e = .returned dflt ∧ Below w.heap.size w w' := by
  go_enter Tryd.func48, Tryd.ntmps48
  go_wp2
  go_ret
  exact ⟨rfl, by go_grown⟩

theorem cell_new (w : World) (C : Array Value) (t : TypeId) : (w.alloc (.cells C t)).cell? ⟨w.heap.size, 0, none⟩ = C[0]? := by
  unfold World.cell? World.alloc
  simp

set_option maxHeartbeats 1600000 in
set_option maxRecDepth 100000 in
theorem doorOrder_calls (w : World) :
    Calls Tryd.prog 40 #[.pointer none] w fun e w' => ∃ p, e = .returned (.pointer (some p)) ∧ w'.cell? p = some dflt ∧ Below w.heap.size w w' := by
  go_enter Tryd.func40, Tryd.ntmps40
  go_wp2_with (go_at_call 48; refine (GetComparer_calls _).mono ?_; rintro e w1 ⟨rfl, hb1⟩; unfold dflt)
  go_ret
  exact ⟨_, rfl, cell_new w1 #[dflt] _, below_alloc hb1 _⟩

set_option maxHeartbeats 1600000 in
set_option maxRecDepth 100000 in
theorem uCompare_calls {w : World} {p : Addr} (hp : w.cell? p = some dflt) {A B : Option Addr} {n c m d : Nat} {l k : List Int} (h : Kd.C (Kd.int .u8) w A n l) (g : Kd.C (Kd.int .u8) w B m k) (hl : Byt l) (hk : Byt k) :
    Calls Tryd.prog 49 #[.pointer (some p), .slice A n c, .slice B m d] w fun e w' => e = .returned (.int .i64 (cmpI l k)) ∧ Below w.heap.size w w' := by
  have H1 := Lib.hid h
  have H2 := Lib.hid g
  clear h g
  unfold dflt at hp
  go_enter Tryd.func49, Tryd.ntmps49
  go_wp2_with (first | (go_at_call 71; refine (bytesComparer_Compare H1.out H2.out hl hk).mono ?_; rintro e w1 ⟨rfl, hb1⟩))
  generalize cmpI l k = r
  go_ret
  exact ⟨rfl, hb1⟩

/-- how an internal key is to another -/
def icmp (x y : List Int) : Int :=
  if cmpI (x.take (x.length - 8)) (y.take (y.length - 8)) = 0 then
    if leN (x.drop (x.length - 8)) > leN (y.drop (y.length - 8)) then -1 else if leN (x.drop (x.length - 8)) < leN (y.drop (y.length - 8)) then 1 else 0
  else cmpI (x.take (x.length - 8)) (y.take (y.length - 8))

theorem icmp_three (x y : List Int) : icmp x y = -1 ∨ icmp x y = 0 ∨ icmp x y = 1 := by
  have := cmpI_three (x.take (x.length - 8)) (y.take (y.length - 8))
  unfold icmp
  split <;> (try split) <;> (try split) <;> omega

theorem byt_take {l : List Int} (h : Byt l) (m : Nat) : Byt (l.take m) := fun x hx => h x (List.mem_of_mem_take hx)

theorem C_head {w : World} {A : Option Addr} {n : Nat} {l : List Int} (h : Kd.C (Kd.int .u8) w A n l) (m : Nat) (hm : m ≤ n) : Kd.C (Kd.int .u8) w A m (l.take m) := by
  have hl := Kd.C_len h
  subst hl
  have z := C_front h (Below.refl _ _) (m : Int) (by omega) (by omega)
  rwa [Int.toNat_natCast] at z

theorem leN_lo {l : List Int} (h : Byt l) : 0 ≤ leN l := by
  have g : ∀ j, 0 ≤ l.getD j 0 := fun j => by
    rw [List.getD_eq_getElem?_getD]
    cases e : l[j]? with
    | none => simp
    | some v => simp; exact (h v (List.mem_of_getElem? e)).1
  have := g 0; have := g 1; have := g 2; have := g 3; have := g 4; have := g 5; have := g 6; have := g 7
  unfold leN
  omega

set_option maxHeartbeats 1600000 in
set_option maxRecDepth 100000 in
theorem iCompare_calls {w : World} {p : Addr} (hp : w.cell? p = some dflt) {A B : Option Addr} {n c m d : Nat} {l k : List Int} (h : Kd.C (Kd.int .u8) w A n l) (g : Kd.C (Kd.int .u8) w B m k) (hl : Byt l) (hk : Byt k) (hn : 8 ≤ n) (hm : 8 ≤ m) (hc : n ≤ c) (hd : m ≤ d) :
    Calls Tryd.prog 41 #[.pointer (some p), .slice A n c, .slice B m d] w fun e w' => e = .returned (.int .i64 (icmp l k)) ∧ Below w.heap.size w w' := by
  have el := Kd.C_len h
  have ek := Kd.C_len g
  have H1 := Lib.hid h
  have H2 := Lib.hid g
  have HP := Lib.hid hp
  have HL := Lib.hid hl
  have HK := Lib.hid hk
  have T1 := Lib.hid (C_head h (n - 8) (by omega))
  have T2 := Lib.hid (C_head g (m - 8) (by omega))
  have n0 := leN_lo (byt_drop hl (n - 8))
  have n1 := leN_lo (byt_drop hk (m - 8))
  have hi : Hid (icmp l k = if cmpI (l.take (n - 8)) (k.take (m - 8)) = 0 then if leN (l.drop (n - 8)) > leN (k.drop (m - 8)) then -1 else if leN (l.drop (n - 8)) < leN (k.drop (m - 8)) then 1 else 0 else cmpI (l.take (n - 8)) (k.take (m - 8))) := by
    unfold icmp; rw [el, ek]; rfl
  clear h g hp el ek hl hk
  have hU := fun (w2 : World) (hb : Below w.heap.size w w2) => uCompare_calls (c := c) (d := d) (pw_cell_below hb HP.out) (Kd.C_below T1.out hb) (Kd.C_below T2.out hb) (byt_take HL.out _) (byt_take HK.out _)
  have hN1 := fun (w2 : World) (hb : Below w.heap.size w w2) => num_calls (Kd.C_below H1.out hb) HL.out hn hc
  have hN2 := fun (w2 : World) (hb : Below w.heap.size w w2) => num_calls (Kd.C_below H2.out hb) HK.out hm hd
  have hK1 := fun (w2 : World) (hb : Below w.heap.size w w2) => ukey_calls (Kd.C_below H1.out hb) hn hc
  have hK2 := fun (w2 : World) (hb : Below w.heap.size w w2) => ukey_calls (Kd.C_below H2.out hb) hm hd
  generalize cmpI (l.take (n - 8)) (k.take (m - 8)) = u at *
  generalize leN (l.drop (n - 8)) = x at *
  generalize leN (k.drop (m - 8)) = y at *
  by_cases hu : u = 0
  · subst hu
    by_cases h1 : x > y
    · have r1 := Lib.hid (hi.out.trans (by rw [if_pos rfl, if_pos h1]))
      go_enter Tryd.func41, Tryd.ntmps41
      go_wp2_with fail
      refine (hK1 w (Below.refl _ _)).mono ?_
      rintro e w1 ⟨rfl, hb1⟩
      go_wp2_with fail
      refine (hK2 w1 hb1).mono ?_
      rintro e w2 ⟨rfl, hb2'⟩
      have hb2 := below_then hb1 hb1.size hb2'
      go_wp2_with fail
      refine (hU w2 hb2).mono ?_
      rintro e w3 ⟨rfl, hb3'⟩
      have hb3 := below_then hb2 hb2.size hb3'
      go_wp2_with fail
      refine (hN1 w3 hb3).mono ?_
      rintro e w4 ⟨rfl, hb4'⟩
      have hb4 := below_then hb3 hb3.size hb4'
      go_wp2_with fail
      refine (hN2 w4 hb4).mono ?_
      rintro e w5 ⟨rfl, hb5'⟩
      have hb5 := below_then hb4 hb4.size hb5'
      go_wp2
      go_ret
      exact ⟨ret_int r1.out.symm, hb5⟩
    · by_cases h2 : x < y
      · have r1 := Lib.hid (hi.out.trans (by rw [if_pos rfl, if_neg h1, if_pos h2]))
        go_enter Tryd.func41, Tryd.ntmps41
        go_wp2_with fail
        refine (hK1 w (Below.refl _ _)).mono ?_
        rintro e w1 ⟨rfl, hb1⟩
        go_wp2_with fail
        refine (hK2 w1 hb1).mono ?_
        rintro e w2 ⟨rfl, hb2'⟩
        have hb2 := below_then hb1 hb1.size hb2'
        go_wp2_with fail
        refine (hU w2 hb2).mono ?_
        rintro e w3 ⟨rfl, hb3'⟩
        have hb3 := below_then hb2 hb2.size hb3'
        go_wp2_with fail
        refine (hN1 w3 hb3).mono ?_
        rintro e w4 ⟨rfl, hb4'⟩
        have hb4 := below_then hb3 hb3.size hb4'
        go_wp2_with fail
        refine (hN2 w4 hb4).mono ?_
        rintro e w5 ⟨rfl, hb5'⟩
        have hb5 := below_then hb4 hb4.size hb5'
        go_wp2
        go_ret
        exact ⟨ret_int r1.out.symm, hb5⟩
      · have r1 := Lib.hid (hi.out.trans (by rw [if_pos rfl, if_neg h1, if_neg h2]))
        go_enter Tryd.func41, Tryd.ntmps41
        go_wp2_with fail
        refine (hK1 w (Below.refl _ _)).mono ?_
        rintro e w1 ⟨rfl, hb1⟩
        go_wp2_with fail
        refine (hK2 w1 hb1).mono ?_
        rintro e w2 ⟨rfl, hb2'⟩
        have hb2 := below_then hb1 hb1.size hb2'
        go_wp2_with fail
        refine (hU w2 hb2).mono ?_
        rintro e w3 ⟨rfl, hb3'⟩
        have hb3 := below_then hb2 hb2.size hb3'
        go_wp2_with fail
        refine (hN1 w3 hb3).mono ?_
        rintro e w4 ⟨rfl, hb4'⟩
        have hb4 := below_then hb3 hb3.size hb4'
        go_wp2_with fail
        refine (hN2 w4 hb4).mono ?_
        rintro e w5 ⟨rfl, hb5'⟩
        have hb5 := below_then hb4 hb4.size hb5'
        go_wp2
        go_ret
        exact ⟨ret_int r1.out.symm, hb5⟩
  · have r1 := Lib.hid (hi.out.trans (by rw [if_neg hu]))
    have z1 : (u == 0) = false := by rw [beq_eq_false_iff_ne]; exact hu
    clear hu
    go_enter Tryd.func41, Tryd.ntmps41
    go_wp2_with fail
    refine (hK1 w (Below.refl _ _)).mono ?_
    rintro e w1 ⟨rfl, hb1⟩
    go_wp2_with fail
    refine (hK2 w1 hb1).mono ?_
    rintro e w2 ⟨rfl, hb2'⟩
    have hb2 := below_then hb1 hb1.size hb2'
    go_wp2_with fail
    refine (hU w2 hb2).mono ?_
    rintro e w3 ⟨rfl, hb3'⟩
    have hb3 := below_then hb2 hb2.size hb3'
    go_wp2
    go_ret
    exact ⟨ret_int r1.out.symm, hb3⟩

end Go.Proofs.YtpdibidfjhjoeaaDoor.Ik
