/- FnOrders: each order is one. The law's own walk. -/
import Derived.Test.YtpdibidfjhjoeaaDoorOrders
import Derived.Lib.QuietBelow
namespace Go.Proofs.YtpdibidfjhjoeaaDoor.Orders
open Go.RowKit Go.Sort Go.Proofs.YtpdibidfjhjoeaaDoorW.PrintWords Go.Proofs.YtpdibidfjhjoeaaDoor.Cmp Go.Proofs.YtpdibidfjhjoeaaDoor.Run Go.Proofs.YtpdibidfjhjoeaaDoor.Con Go.Proofs.YtpdibidfjhjoeaaDoor.PFnOrders

set_option linter.unusedVariables false

theorem same_cmp (o : Int) (l m : List Int) : ((cmpO o l m == 0) == same l m) = true := by
  unfold same
  rw [beq_iff_eq]
  by_cases h : l = m
  · rw [decide_eq_true h, beq_iff_eq]; exact cmpO_zero.2 h
  · rw [decide_eq_false h, beq_eq_false_iff_ne]; exact fun z => h (cmpO_zero.1 z)

theorem C_nil0 (w : World) : Kd.C (Kd.int .u8) w none 0 [] := Kd.C_nil _ _
theorem Byt_nil : Byt [] := fun x h => by cases h

set_option maxHeartbeats 1600000 in
theorem orders_no (o : Int) (A : Option Addr) (ca : Nat) (a : List Int) (B : Option Addr) (cb : Nat) (b : List Int) (C : Option Addr) (cc : Nat) (c : List Int) (w : World)
    (ha : Kd.C (Kd.int .u8) w A a.length a) (hca : a.length ≤ ca) (ba : Byt a) (hb : Kd.C (Kd.int .u8) w B b.length b) (hcb : b.length ≤ cb) (bb : Byt b) (hc : Kd.C (Kd.int .u8) w C c.length c) (bc : Byt c)
    (ga : a.length ≤ 2147483647) (gb : b.length ≤ 2147483647) (gc : c.length ≤ 2147483647) (L1 : Hid (less o a b = false)) (LN : Hid (less o a [] = false)) :
    Calls Tryd.prog 4 #[.int .i64 o, .slice A a.length ca, .slice B b.length cb, .slice C c.length cc] w fun e w' => e = .returned (.bool true) ∧ Below w.heap.size w w' := by
  have HA := Lib.hid ha
  have HB := Lib.hid hb
  have HC := Lib.hid hc
  have ed : same a b = (cmpO o a b == 0) := (beq_iff_eq.1 (same_cmp o a b)).symm
  clear ha hb hc
  go_enter Tryd.func4, Tryd.ntmps4
  go_wp2_with (go_at_call 13; refine (Compare_calls o (Kd.C_alloc HA.out _) (Kd.C_alloc HB.out _) ba bb).mono ?_; rintro e w1 ⟨rfl, hb1⟩)
  have hB1 : Below w.heap.size w w1 := below_then (below_alloc (Below.refl _ _) _) (by simp) hb1
  have hc1 : w1.cell? ⟨w.heap.size, 0, none⟩ = some (.int .i64 o) := pw_cell_below hb1 (by simp)
  clear hb1
  have HW : ∀ d os, Hid (Below w.heap.size w (grow (redrawn w1 d) os)) := fun d os => below_then hB1 hB1.size (below_regrown w1 d os)
  have KC := cell_regrown hc1
  refine wp_region_quiet_below (by kernel_rfl) (by kernel_rfl) ?_
  repeat (go_big_quiet_step (first
      | (go_at_call 9; exact Calls.regrown_of (Bytes_same (Kd.C_below HA.out (HW _ _).out) hca (Kd.C_below HB.out (HW _ _).out) hcb))
      | (go_at_call 12; (with_reducible refine Calls.regrown_of (closure_calls o _ L1.out (KC _ _) (Kd.C_below HA.out (HW _ _).out) (Kd.C_below HB.out (HW _ _).out) ba bb)))
      | (go_at_call 12; (with_reducible refine Calls.regrown_of (closure_calls o _ rfl (KC _ _) (Kd.C_below HB.out (HW _ _).out) (Kd.C_below HA.out (HW _ _).out) bb ba)))
      | (go_at_call 12; (with_reducible refine Calls.regrown_of (closure_calls o _ LN.out (KC _ _) (Kd.C_below HA.out (HW _ _).out) (C_nil0 _) ba Byt_nil)))
      | (go_at_call 14; (with_reducible refine Calls.regrown_of (OrderLess_less o _ L1.out (Kd.C_below HA.out (HW _ _).out) hca (Kd.C_below HB.out (HW _ _).out) hcb)))
      | (go_at_call 14; (with_reducible refine Calls.regrown_of (OrderLess_less o _ rfl (Kd.C_below HB.out (HW _ _).out) hcb (Kd.C_below HA.out (HW _ _).out) hca)))))
  refine wpQuiet_nil ?_
  intro _ hw'
  obtain ⟨⟨dq, osq⟩, hw''⟩ := hw'
  subst hw''
  go_wp2
  go_ret
  exact ⟨rfl, (HW _ _).out⟩

set_option maxHeartbeats 1600000 in
theorem orders_part (o : Int) (A : Option Addr) (ca : Nat) (a : List Int) (B : Option Addr) (cb : Nat) (b : List Int) (C : Option Addr) (cc : Nat) (c : List Int) (w : World)
    (ha : Kd.C (Kd.int .u8) w A a.length a) (hca : a.length ≤ ca) (ba : Byt a) (hb : Kd.C (Kd.int .u8) w B b.length b) (hcb : b.length ≤ cb) (bb : Byt b) (hc : Kd.C (Kd.int .u8) w C c.length c) (bc : Byt c)
    (ga : a.length ≤ 2147483647) (gb : b.length ≤ 2147483647) (gc : c.length ≤ 2147483647) (L1 : Hid (less o a b = true)) (L2 : Hid (less o b c = false)) (LN : Hid (less o a [] = false)) :
    Calls Tryd.prog 4 #[.int .i64 o, .slice A a.length ca, .slice B b.length cb, .slice C c.length cc] w fun e w' => e = .returned (.bool true) ∧ Below w.heap.size w w' := by
  have HA := Lib.hid ha
  have HB := Lib.hid hb
  have HC := Lib.hid hc
  have ed : same a b = (cmpO o a b == 0) := (beq_iff_eq.1 (same_cmp o a b)).symm
  clear ha hb hc
  go_enter Tryd.func4, Tryd.ntmps4
  go_wp2_with (go_at_call 13; refine (Compare_calls o (Kd.C_alloc HA.out _) (Kd.C_alloc HB.out _) ba bb).mono ?_; rintro e w1 ⟨rfl, hb1⟩)
  have hB1 : Below w.heap.size w w1 := below_then (below_alloc (Below.refl _ _) _) (by simp) hb1
  have hc1 : w1.cell? ⟨w.heap.size, 0, none⟩ = some (.int .i64 o) := pw_cell_below hb1 (by simp)
  clear hb1
  have HW : ∀ d os, Hid (Below w.heap.size w (grow (redrawn w1 d) os)) := fun d os => below_then hB1 hB1.size (below_regrown w1 d os)
  have KC := cell_regrown hc1
  refine wp_region_quiet_below (by kernel_rfl) (by kernel_rfl) ?_
  repeat (go_big_quiet_step (first
      | (go_at_call 9; exact Calls.regrown_of (Bytes_same (Kd.C_below HA.out (HW _ _).out) hca (Kd.C_below HB.out (HW _ _).out) hcb))
      | (go_at_call 12; (with_reducible refine Calls.regrown_of (closure_calls o _ L1.out (KC _ _) (Kd.C_below HA.out (HW _ _).out) (Kd.C_below HB.out (HW _ _).out) ba bb)))
      | (go_at_call 12; (with_reducible refine Calls.regrown_of (closure_calls o _ L2.out (KC _ _) (Kd.C_below HB.out (HW _ _).out) (Kd.C_below HC.out (HW _ _).out) bb bc)))
      | (go_at_call 12; (with_reducible refine Calls.regrown_of (closure_calls o _ rfl (KC _ _) (Kd.C_below HB.out (HW _ _).out) (Kd.C_below HA.out (HW _ _).out) bb ba)))
      | (go_at_call 12; (with_reducible refine Calls.regrown_of (closure_calls o _ LN.out (KC _ _) (Kd.C_below HA.out (HW _ _).out) (C_nil0 _) ba Byt_nil)))
      | (go_at_call 14; (with_reducible refine Calls.regrown_of (OrderLess_less o _ L1.out (Kd.C_below HA.out (HW _ _).out) hca (Kd.C_below HB.out (HW _ _).out) hcb)))
      | (go_at_call 14; (with_reducible refine Calls.regrown_of (OrderLess_less o _ rfl (Kd.C_below HB.out (HW _ _).out) hcb (Kd.C_below HA.out (HW _ _).out) hca)))))
  refine wpQuiet_nil ?_
  intro _ hw'
  obtain ⟨⟨dq, osq⟩, hw''⟩ := hw'
  subst hw''
  go_wp2
  go_ret
  exact ⟨rfl, (HW _ _).out⟩

set_option maxHeartbeats 1600000 in
theorem orders_yes (o : Int) (A : Option Addr) (ca : Nat) (a : List Int) (B : Option Addr) (cb : Nat) (b : List Int) (C : Option Addr) (cc : Nat) (c : List Int) (w : World)
    (ha : Kd.C (Kd.int .u8) w A a.length a) (hca : a.length ≤ ca) (ba : Byt a) (hb : Kd.C (Kd.int .u8) w B b.length b) (hcb : b.length ≤ cb) (bb : Byt b) (hc : Kd.C (Kd.int .u8) w C c.length c) (bc : Byt c)
    (ga : a.length ≤ 2147483647) (gb : b.length ≤ 2147483647) (gc : c.length ≤ 2147483647) (L1 : Hid (less o a b = true)) (L2 : Hid (less o b c = true)) (L3 : Hid (less o a c = true)) (LN : Hid (less o a [] = false)) :
    Calls Tryd.prog 4 #[.int .i64 o, .slice A a.length ca, .slice B b.length cb, .slice C c.length cc] w fun e w' => e = .returned (.bool true) ∧ Below w.heap.size w w' := by
  have HA := Lib.hid ha
  have HB := Lib.hid hb
  have HC := Lib.hid hc
  have ed : same a b = (cmpO o a b == 0) := (beq_iff_eq.1 (same_cmp o a b)).symm
  clear ha hb hc
  go_enter Tryd.func4, Tryd.ntmps4
  go_wp2_with (go_at_call 13; refine (Compare_calls o (Kd.C_alloc HA.out _) (Kd.C_alloc HB.out _) ba bb).mono ?_; rintro e w1 ⟨rfl, hb1⟩)
  have hB1 : Below w.heap.size w w1 := below_then (below_alloc (Below.refl _ _) _) (by simp) hb1
  have hc1 : w1.cell? ⟨w.heap.size, 0, none⟩ = some (.int .i64 o) := pw_cell_below hb1 (by simp)
  clear hb1
  have HW : ∀ d os, Hid (Below w.heap.size w (grow (redrawn w1 d) os)) := fun d os => below_then hB1 hB1.size (below_regrown w1 d os)
  have KC := cell_regrown hc1
  refine wp_region_quiet_below (by kernel_rfl) (by kernel_rfl) ?_
  repeat (go_big_quiet_step (first
      | (go_at_call 9; exact Calls.regrown_of (Bytes_same (Kd.C_below HA.out (HW _ _).out) hca (Kd.C_below HB.out (HW _ _).out) hcb))
      | (go_at_call 12; (with_reducible refine Calls.regrown_of (closure_calls o _ L1.out (KC _ _) (Kd.C_below HA.out (HW _ _).out) (Kd.C_below HB.out (HW _ _).out) ba bb)))
      | (go_at_call 12; (with_reducible refine Calls.regrown_of (closure_calls o _ L2.out (KC _ _) (Kd.C_below HB.out (HW _ _).out) (Kd.C_below HC.out (HW _ _).out) bb bc)))
      | (go_at_call 12; (with_reducible refine Calls.regrown_of (closure_calls o _ L3.out (KC _ _) (Kd.C_below HA.out (HW _ _).out) (Kd.C_below HC.out (HW _ _).out) ba bc)))
      | (go_at_call 12; (with_reducible refine Calls.regrown_of (closure_calls o _ rfl (KC _ _) (Kd.C_below HB.out (HW _ _).out) (Kd.C_below HA.out (HW _ _).out) bb ba)))
      | (go_at_call 12; (with_reducible refine Calls.regrown_of (closure_calls o _ LN.out (KC _ _) (Kd.C_below HA.out (HW _ _).out) (C_nil0 _) ba Byt_nil)))
      | (go_at_call 14; (with_reducible refine Calls.regrown_of (OrderLess_less o _ L1.out (Kd.C_below HA.out (HW _ _).out) hca (Kd.C_below HB.out (HW _ _).out) hcb)))
      | (go_at_call 14; (with_reducible refine Calls.regrown_of (OrderLess_less o _ rfl (Kd.C_below HB.out (HW _ _).out) hcb (Kd.C_below HA.out (HW _ _).out) hca)))))
  refine wpQuiet_nil ?_
  intro _ hw'
  obtain ⟨⟨dq, osq⟩, hw''⟩ := hw'
  subst hw''
  go_wp2
  go_ret
  exact ⟨rfl, (HW _ _).out⟩

theorem orders_walk (o : Int) (A : Option Addr) (ca : Nat) (a : List Int) (B : Option Addr) (cb : Nat) (b : List Int) (C : Option Addr) (cc : Nat) (c : List Int) (w : World)
    (_wf : (Lit.int .i64 o).wf = true) (ha : Kd.C (Kd.int .u8) w A a.length a) (hca : a.length ≤ ca) (ba : Byt a) (_ma : a.length ≤ 140737488351232) (hb : Kd.C (Kd.int .u8) w B b.length b) (hcb : b.length ≤ cb) (bb : Byt b) (_mb : b.length ≤ 140737488351232)
    (hc : Kd.C (Kd.int .u8) w C c.length c) (_hcc : c.length ≤ cc) (bc : Byt c) (_mc : c.length ≤ 140737488351232) :
    Calls Tryd.prog 4 #[.int .i64 o, .slice A a.length ca, .slice B b.length cb, .slice C c.length cc] w fun e w' => e = .returned (.bool true) ∧ Below w.heap.size w w' := by
  have LN : Hid (less o a [] = false) := by unfold less; exact decide_eq_false (cmpO_nil o a)
  by_cases ga : a.length ≤ 2147483647
  · by_cases gb : b.length ≤ 2147483647
    · by_cases gc : c.length ≤ 2147483647
      · cases h1 : less o a b with
        | false => exact orders_no o A ca a B cb b C cc c w ha hca ba hb hcb bb hc bc ga gb gc h1 LN
        | true =>
          cases h2 : less o b c with
          | false => exact orders_part o A ca a B cb b C cc c w ha hca ba hb hcb bb hc bc ga gb gc h1 h2 LN
          | true =>
            have h3 : less o a c = true := decide_eq_true (cmpO_trans o a b c (of_decide_eq_true h1) (of_decide_eq_true h2))
            exact orders_yes o A ca a B cb b C cc c w ha hca ba hb hcb bb hc bc ga gb gc h1 h2 h3 LN
      · clear ha hb hc LN
        go_enter Tryd.func4, Tryd.ntmps4
        go_wp2
        go_ret
        exact ⟨rfl, by go_grown⟩
    · clear ha hb hc LN
      go_enter Tryd.func4, Tryd.ntmps4
      go_wp2
      go_ret
      exact ⟨rfl, by go_grown⟩
  · clear ha hb hc LN
    go_enter Tryd.func4, Tryd.ntmps4
    go_wp2
    go_ret
    exact ⟨rfl, by go_grown⟩

end Go.Proofs.YtpdibidfjhjoeaaDoor.Orders
