/- Walks that print.sh printed (a cut). -/
import Derived.Test.YtdkkkikcigjlhaaGreatDoorMj06
set_option linter.unusedVariables false
set_option linter.unusedSimpArgs false
namespace Go.Proofs.YtdkkkikcigjlhaaGreatDoor.PFnMemMap
open Go.RowKit Go.Proofs.YtdkkkikcigjlhaaGreatDoorW.PrintWords Go.Proofs.YtdkkkikcigjlhaaGreatDoorW.PrintLast Go.Proofs.YtdkkkikcigjlhaaGreatDoorW.PrintMore
attribute [local go_sem] max2_int min2_int max_two min_two max_three min_three max_four min_four   -- for this text's walks alone

/-! ### spec_BytesCompare: function 48 -/
mutual
def spec_BytesCompare.l0 : Nat → List Int → List Int → Int → Option (Int)
  | 0, _, _, _ => none
  | k + 1, x0, x1, x5 => if x5 < (x0.length : Int) then (spec_BytesCompare.j1 k x0 x1 x5 (decide (x5 < (x1.length : Int)))) else (spec_BytesCompare.j1 k x0 x1 x5 false)
def spec_BytesCompare.j1 : Nat → List Int → List Int → Int → Bool → Option (Int)
  | 0, _, _, _, _ => none
  | k + 1, x0, x1, x5, x15 => if x15 = true then (if 0 ≤ x5 then (if x5 < (x0.length : Int) then (if x5 < (x1.length : Int) then (if (rd x0 x5) < (rd x1 x5) then (some (-1)) else (if (rd x0 x5) > (rd x1 x5) then (some 1) else (spec_BytesCompare.l0 k x0 x1 (wrap64 (x5 + 1))))) else (none)) else (none)) else (none)) else (if (x0.length : Int) < (x1.length : Int) then (some (-1)) else (if (x0.length : Int) > (x1.length : Int) then (some 1) else (some 0)))
end
def spec_BytesCompare.f (k : Nat) (l0 : List Int) (l1 : List Int) : Option (Int) := spec_BytesCompare.l0 k l0 l1 0
set_option maxHeartbeats 8000000 in
set_option maxRecDepth 100000 in
theorem spec_BytesCompare.calls (k : Nat) (A0 : Option Addr) (c0 : Nat) (l0 : List Int) (A1 : Option Addr) (c1 : Nat) (l1 : List Int) (r : Int) (w : World) (hr0 : Kd.C (Kd.int .u8) w A0 l0.length l0) (hc0 : l0.length ≤ c0) (hr1 : Kd.C (Kd.int .u8) w A1 l1.length l1) (hc1 : l1.length ≤ c1) (h : spec_BytesCompare.f k l0 l1 = some r) :
    Calls Tryz.prog 48 #[.slice A0 l0.length c0, .slice A1 l1.length c1] w fun e w' => e = .returned (.int .i64 r) ∧ Drawn0 w w' := by
  have HR0 := Aside0.mk hr0
  have HC0 := Aside0.mk hc0
  clear hr0 hc0
  have HR1 := Aside0.mk hr1
  have HC1 := Aside0.mk hc1
  clear hr1 hc1
  have H : (spec_BytesCompare.l0 k l0 l1 0) = some r := h
  clear h
  have H' := Aside0.mk H
  clear H
  go_enter Tryz.func48, Tryz.ntmps48
  go_wp2
  repeat (go_quiet (fail); try go_wp2)
  go_loopg [5] k (fun kq v5 w' => ∃ (x5_1 : Int), v5 = .int .i64 x5_1 ∧ Aside0 (spec_BytesCompare.l0 kq l0 l1 x5_1 = some r) ∧ Aside0 (kq ≤ k) ∧ Drawn0 w w')
  case atStart => exact ⟨(0), (by first | rfl | (simp; done) | (simp [*]; done)), H', ⟨Nat.le_refl _⟩, by repeat (first | exact Drawn0.refl _ | apply Drawn0.step)⟩
  case round =>
    clear H'
    try clear c1
    try clear p2
    obtain ⟨x5_1, rfl, HA, HK1, ⟨m1, rfl⟩⟩ := hrel
    cases gk with
    | zero => exact absurd HA.out (by simp [spec_BytesCompare.l0])
    | succ k1 =>
      have H := HA.out
      clear HA
      simp only [spec_BytesCompare.l0] at H
      have HC3 := Aside0.mk H
      clear H
      go_upto_region 2 with (fail)
      repeat (go_quiet (fail); go_upto_region 2 with (fail))
      go_cut [15] (fun v15 wc => ∃ (kq : Nat) (x15_2 : Bool), v15 = .bool x15_2 ∧ Aside0 (spec_BytesCompare.j1 kq l0 l1 x5_1 x15_2 = some r) ∧ Aside0 (kq ≤ k1) ∧ Drawn0 w wc)
      case first =>
        have H := HC3.out
        clear HC3
        by_cases c4 : x5_1 < (l0.length : Int)
        · rw [if_pos c4] at H
          have c4b0 : decide (x5_1 < (l0.length : Int)) = true := decide_eq_true c4
          clear c4
          (first | rw [c4b0] | (simp only [i64_w, i32_w]; rw [c4b0]) | skip)
          have H' := Aside0.mk H
          clear H
          go_wp2
          repeat (go_quiet (fail); try go_wp2)
          go_meet
          case rel => exact ⟨_, (decide (x5_1 < (l1.length : Int))), (by first | rfl | (simp; done) | (simp [*]; done)), H', ⟨by have := HK1.out; first | omega | exact Nat.le_refl _⟩, by repeat (first | exact Drawn0.refl _ | apply Drawn0.step)⟩
        · rw [if_neg c4] at H
          have c4b0 : decide (x5_1 < (l0.length : Int)) = false := decide_eq_false c4
          clear c4
          (first | rw [c4b0] | (simp only [i64_w, i32_w]; rw [c4b0]) | skip)
          have H' := Aside0.mk H
          clear H
          go_wp2
          repeat (go_quiet (fail); try go_wp2)
          go_meet
          case rel => exact ⟨_, (false), (by first | rfl | (simp; done) | (simp [*]; done)), H', ⟨by have := HK1.out; first | omega | exact Nat.le_refl _⟩, by repeat (first | exact Drawn0.refl _ | apply Drawn0.step)⟩
      case rest =>
        clear HC3
        try clear c1
        try clear p2
        try clear c4
        try clear c4b0
        try clear p2
        obtain ⟨kq, x15_2, rfl, HA, HJ2, ⟨mc2, rfl⟩⟩ := hcut
        cases kq with
        | zero => exact absurd HA.out (by simp [spec_BytesCompare.j1])
        | succ kj2 =>
          have H := HA.out
          clear HA
          simp only [spec_BytesCompare.j1] at H
          by_cases c5 : x15_2 = true
          · subst c5
            have H1 : (if 0 ≤ x5_1 then (if x5_1 < (l0.length : Int) then (if x5_1 < (l1.length : Int) then (if (rd l0 x5_1) < (rd l1 x5_1) then (some (-1)) else (if (rd l0 x5_1) > (rd l1 x5_1) then (some 1) else (spec_BytesCompare.l0 kj2 l0 l1 (wrap64 (x5_1 + 1))))) else (none)) else (none)) else (none)) = some r := by rw [if_pos rfl] at H; exact H
            clear H
            have H := H1
            clear H1
            by_cases c6 : 0 ≤ x5_1
            · rw [if_pos c6] at H
              have c6b0 : decide (0 ≤ x5_1) = true := decide_eq_true c6
              clear c6
              by_cases c7 : x5_1 < (l0.length : Int)
              · rw [if_pos c7] at H
                have c7b0 : decide (x5_1 < (l0.length : Int)) = true := decide_eq_true c7
                clear c7
                by_cases c8 : x5_1 < (l1.length : Int)
                · rw [if_pos c8] at H
                  have c8b0 : decide (x5_1 < (l1.length : Int)) = true := decide_eq_true c8
                  clear c8
                  by_cases c9 : (rd l0 x5_1) < (rd l1 x5_1)
                  · rw [if_pos c9] at H
                    have c9b0 : decide ((rd l0 x5_1) < (rd l1 x5_1)) = true := decide_eq_true c9
                    clear c9
                    obtain rfl := Option.some.inj H
                    have p101 : 0 ≤ (x5_1 : Int) := of_decide_eq_true (by first | (with_reducible assumption) | assumption)
                    have q101 : x5_1 < (l0.length : Int) := of_decide_eq_true (by first | (with_reducible assumption) | assumption)
                    obtain ⟨ad101, e101, hx101_0⟩ := Kd.at_int HR0.out x5_1 p101 q101
                    cases e101
                    replace p101 := eq_true p101
                    replace q101 := eq_true q101
                    have p102 : 0 ≤ (x5_1 : Int) := of_decide_eq_true (by first | (with_reducible assumption) | assumption)
                    have q102 : x5_1 < (l1.length : Int) := of_decide_eq_true (by first | (with_reducible assumption) | assumption)
                    obtain ⟨ad102, e102, hx102_0⟩ := Kd.at_int HR1.out x5_1 p102 q102
                    cases e102
                    replace p102 := eq_true p102
                    replace q102 := eq_true q102
                    go_wp2
                    repeat (go_quiet (fail); try go_wp2)
                    go_ret
                    exact ⟨by first | rfl | (simp; done) | (simp [*]; done), by repeat (first | exact Drawn0.refl _ | apply Drawn0.step)⟩
                  · rw [if_neg c9] at H
                    have c9b0 : decide ((rd l0 x5_1) < (rd l1 x5_1)) = false := decide_eq_false c9
                    clear c9
                    by_cases c10 : (rd l0 x5_1) > (rd l1 x5_1)
                    · rw [if_pos c10] at H
                      have c10b0 : decide ((rd l1 x5_1) < (rd l0 x5_1)) = true := decide_eq_true c10
                      clear c10
                      obtain rfl := Option.some.inj H
                      have p101 : 0 ≤ (x5_1 : Int) := of_decide_eq_true (by first | (with_reducible assumption) | assumption)
                      have q101 : x5_1 < (l0.length : Int) := of_decide_eq_true (by first | (with_reducible assumption) | assumption)
                      obtain ⟨ad101, e101, hx101_0⟩ := Kd.at_int HR0.out x5_1 p101 q101
                      cases e101
                      replace p101 := eq_true p101
                      replace q101 := eq_true q101
                      have p102 : 0 ≤ (x5_1 : Int) := of_decide_eq_true (by first | (with_reducible assumption) | assumption)
                      have q102 : x5_1 < (l1.length : Int) := of_decide_eq_true (by first | (with_reducible assumption) | assumption)
                      obtain ⟨ad102, e102, hx102_0⟩ := Kd.at_int HR1.out x5_1 p102 q102
                      cases e102
                      replace p102 := eq_true p102
                      replace q102 := eq_true q102
                      have p103 : 0 ≤ (x5_1 : Int) := of_decide_eq_true (by first | (with_reducible assumption) | assumption)
                      have q103 : x5_1 < (l0.length : Int) := of_decide_eq_true (by first | (with_reducible assumption) | assumption)
                      obtain ⟨ad103, e103, hx103_0⟩ := Kd.at_int HR0.out x5_1 p103 q103
                      obtain rfl : ad101 = ad103 := (by injection e103)
                      replace p103 := eq_true p103
                      replace q103 := eq_true q103
                      have p104 : 0 ≤ (x5_1 : Int) := of_decide_eq_true (by first | (with_reducible assumption) | assumption)
                      have q104 : x5_1 < (l1.length : Int) := of_decide_eq_true (by first | (with_reducible assumption) | assumption)
                      obtain ⟨ad104, e104, hx104_0⟩ := Kd.at_int HR1.out x5_1 p104 q104
                      obtain rfl : ad102 = ad104 := (by injection e104)
                      replace p104 := eq_true p104
                      replace q104 := eq_true q104
                      go_wp2
                      repeat (go_quiet (fail); try go_wp2)
                      go_ret
                      exact ⟨by first | rfl | (simp; done) | (simp [*]; done), by repeat (first | exact Drawn0.refl _ | apply Drawn0.step)⟩
                    · rw [if_neg c10] at H
                      have c10b0 : decide ((rd l1 x5_1) < (rd l0 x5_1)) = false := decide_eq_false c10
                      clear c10
                      have H' := Aside0.mk H
                      clear H
                      have p101 : 0 ≤ (x5_1 : Int) := of_decide_eq_true (by first | (with_reducible assumption) | assumption)
                      have q101 : x5_1 < (l0.length : Int) := of_decide_eq_true (by first | (with_reducible assumption) | assumption)
                      obtain ⟨ad101, e101, hx101_0⟩ := Kd.at_int HR0.out x5_1 p101 q101
                      cases e101
                      replace p101 := eq_true p101
                      replace q101 := eq_true q101
                      have p102 : 0 ≤ (x5_1 : Int) := of_decide_eq_true (by first | (with_reducible assumption) | assumption)
                      have q102 : x5_1 < (l1.length : Int) := of_decide_eq_true (by first | (with_reducible assumption) | assumption)
                      obtain ⟨ad102, e102, hx102_0⟩ := Kd.at_int HR1.out x5_1 p102 q102
                      cases e102
                      replace p102 := eq_true p102
                      replace q102 := eq_true q102
                      have p103 : 0 ≤ (x5_1 : Int) := of_decide_eq_true (by first | (with_reducible assumption) | assumption)
                      have q103 : x5_1 < (l0.length : Int) := of_decide_eq_true (by first | (with_reducible assumption) | assumption)
                      obtain ⟨ad103, e103, hx103_0⟩ := Kd.at_int HR0.out x5_1 p103 q103
                      obtain rfl : ad101 = ad103 := (by injection e103)
                      replace p103 := eq_true p103
                      replace q103 := eq_true q103
                      have p104 : 0 ≤ (x5_1 : Int) := of_decide_eq_true (by first | (with_reducible assumption) | assumption)
                      have q104 : x5_1 < (l1.length : Int) := of_decide_eq_true (by first | (with_reducible assumption) | assumption)
                      obtain ⟨ad104, e104, hx104_0⟩ := Kd.at_int HR1.out x5_1 p104 q104
                      obtain rfl : ad102 = ad104 := (by injection e104)
                      replace p104 := eq_true p104
                      replace q104 := eq_true q104
                      go_wp2
                      repeat (go_quiet (fail); try go_wp2)
                      go_roundg kj2
                      case measure => have := HK1.out; have := HJ2.out; omega
                      case rel => exact ⟨(wrap64 (x5_1 + 1)), (by first | rfl | (simp; done) | (simp [*]; done)), H', ⟨by have := HK1.out; have := HJ2.out; omega⟩, by repeat (first | exact Drawn0.refl _ | apply Drawn0.step)⟩
                · rw [if_neg c8] at H
                  exact absurd H (by simp)
              · rw [if_neg c7] at H
                exact absurd H (by simp)
            · rw [if_neg c6] at H
              exact absurd H (by simp)
          · replace c5 := Bool.eq_false_iff.mpr c5
            subst c5
            have H1 : (if (l0.length : Int) < (l1.length : Int) then (some (-1)) else (if (l0.length : Int) > (l1.length : Int) then (some 1) else (some 0))) = some r := by rw [if_neg (show ¬ (false = true) by decide)] at H; exact H
            clear H
            have H := H1
            clear H1
            by_cases c11 : (l0.length : Int) < (l1.length : Int)
            · rw [if_pos c11] at H
              have c11b0 : decide ((l0.length : Int) < (l1.length : Int)) = true := decide_eq_true c11
              have c11b1 : decide (l0.length < l1.length) = true := decide_eq_true (Int.ofNat_lt.mp c11)
              clear c11
              obtain rfl := Option.some.inj H
              go_wp2
              repeat (go_quiet (fail); try go_wp2)
              go_ret
              exact ⟨by first | rfl | (simp; done) | (simp [*]; done), by repeat (first | exact Drawn0.refl _ | apply Drawn0.step)⟩
            · rw [if_neg c11] at H
              have c11b0 : decide ((l0.length : Int) < (l1.length : Int)) = false := decide_eq_false c11
              have c11b1 : decide (l0.length < l1.length) = false := decide_eq_false (fun h => c11 (Int.ofNat_lt.mpr h))
              clear c11
              by_cases c12 : (l0.length : Int) > (l1.length : Int)
              · rw [if_pos c12] at H
                have c12b0 : decide ((l1.length : Int) < (l0.length : Int)) = true := decide_eq_true c12
                have c12b1 : decide (l1.length < l0.length) = true := decide_eq_true (Int.ofNat_lt.mp c12)
                clear c12
                obtain rfl := Option.some.inj H
                go_wp2
                repeat (go_quiet (fail); try go_wp2)
                go_ret
                exact ⟨by first | rfl | (simp; done) | (simp [*]; done), by repeat (first | exact Drawn0.refl _ | apply Drawn0.step)⟩
              · rw [if_neg c12] at H
                have c12b0 : decide ((l1.length : Int) < (l0.length : Int)) = false := decide_eq_false c12
                have c12b1 : decide (l1.length < l0.length) = false := decide_eq_false (fun h => c12 (Int.ofNat_lt.mpr h))
                clear c12
                obtain rfl := Option.some.inj H
                go_wp2
                repeat (go_quiet (fail); try go_wp2)
                go_ret
                exact ⟨by first | rfl | (simp; done) | (simp [*]; done), by repeat (first | exact Drawn0.refl _ | apply Drawn0.step)⟩

/-! ### spec_BytesSame: function 20 -/
def spec_BytesSame.f (k : Nat) (l0 : List Int) (l1 : List Int) : Option (Bool) := (spec_BytesCompare.f k l0 l1).bind fun t105 => (some (t105 == 0))
set_option maxHeartbeats 8000000 in
set_option maxRecDepth 100000 in
theorem spec_BytesSame.calls (k : Nat) (A0 : Option Addr) (c0 : Nat) (l0 : List Int) (A1 : Option Addr) (c1 : Nat) (l1 : List Int) (r : Bool) (w : World) (hr0 : Kd.C (Kd.int .u8) w A0 l0.length l0) (hc0 : l0.length ≤ c0) (hr1 : Kd.C (Kd.int .u8) w A1 l1.length l1) (hc1 : l1.length ≤ c1) (h : spec_BytesSame.f k l0 l1 = some r) :
    Calls Tryz.prog 20 #[.slice A0 l0.length c0, .slice A1 l1.length c1] w fun e w' => e = .returned (.bool r) ∧ Drawn0 w w' := by
  have HR0 := Aside0.mk hr0
  have HC0 := Aside0.mk hc0
  clear hr0 hc0
  have HR1 := Aside0.mk hr1
  have HC1 := Aside0.mk hc1
  clear hr1 hc1
  have H : ((spec_BytesCompare.f k l0 l1).bind fun t105 => (some (t105 == 0))) = some r := h
  clear h
  replace H := Option.bind_eq_some_iff.mp H
  obtain ⟨t105, A30, H⟩ := H
  replace H : (some (t105 == 0)) = some r := H
  have A3 := Aside0.mk A30
  clear A30
  obtain rfl := Option.some.inj H
  go_enter Tryz.func20, Tryz.ntmps20
  go_wp2_with (first | ((with_reducible refine gate_callee (f := 48) rfl ?_); refine goesL_ (some 7) rfl rfl Tryz.func48 (by kernel_rfl) rfl #[.slice A0 l0.length c0, .slice A1 l1.length c1] rfl (by (try simp only [List.map_toArray, List.map_cons, List.map_nil]); first | done | rfl | (simp only [List.length_drop, List.length_take]; rfl)) ?_; (with_reducible refine (spec_BytesCompare.calls k _ _ l0 _ _ l1 t105 _ ?side1 ?side2 ?side3 ?side4 A3.out).mono ?_); (case side1 => repeat (first | exact HR0.out | (with_reducible refine Kd.C_alloc ?_ _) | (with_reducible refine Kd.C_drewN ?_ _) | (with_reducible refine Kd.C_drew ?_))); (case side2 => exact HC0.out); (case side3 => repeat (first | exact HR1.out | (with_reducible refine Kd.C_alloc ?_ _) | (with_reducible refine Kd.C_drewN ?_ _) | (with_reducible refine Kd.C_drew ?_))); (case side4 => exact HC1.out); rintro e w' ⟨rfl, ⟨nd, rfl⟩⟩; refine ⟨_, rfl, ?_⟩))
  go_ret
  exact ⟨by first | rfl | (simp; done) | (simp [*]; done), by repeat (first | exact Drawn0.refl _ | apply Drawn0.step)⟩

-- NOT PRINTED: function 58 (impl_orderOf)

-- NOT PRINTED: function 59 (impl_rising)

/-! ### impl_copied: function 60 -/
def impl_copied.l0 : Nat → List (S44) → List (S44) → Int → Int → Option ((List (S44)))
  | 0, _, _, _, _ => none
  | k + 1, x2, x5, x6, x7 => if x7 < x6 then (if 0 ≤ x7 then (if x7 < (x5.length : Int) then ((some (([] : List Int) : List Int)).bind fun y108 => (if y108.length + ((rd_T44 x5 x7).f0).length < 140737488355328 then ((some (([] : List Int) : List Int)).bind fun y114 => (if y114.length + ((rd_T44 x5 x7).f1).length < 140737488355328 then (if x2.length < 2932031007402 then (impl_copied.l0 k (x2 ++ [(⟨(y108 ++ ((rd_T44 x5 x7).f0)), (y114 ++ ((rd_T44 x5 x7).f1))⟩ : S44)]) x5 x6 (wrap64 (x7 + 1))) else (none)) else (none))) else (none))) else (none)) else (none)) else (some x2)
def impl_copied.f (k : Nat) (l0 : List (S44)) : Option ((List (S44))) := impl_copied.l0 k ([] : List (S44)) l0 (l0.length : Int) 0
def impl_copied.T4 : Bool × List (List Nat × List Nat) := (true, [([], []), ([], []), ([], []), ([2], [2]), ([1, 3], [1, 3]), ([], []), ([], []), ([6], [6]), ([5, 7, 4], [5, 7]), ([4, 8], [4, 8]), ([9], [9]), ([0, 10, 8], [0, 10]), ([11, 11, 0, 1, 2, 3, 4, 5, 6, 7, 8, 9, 10, 11], [0, 11])])
def impl_copied.B4 : List Nat := [0, 0, 0, 4, 14, 0, 0, 64, 254, 510, 1022, 2047, 4095]
theorem impl_copied.tab4 : rtab .any (opsOf Tryz.f60 4) = impl_copied.T4 := by kernel_rfl
theorem impl_copied.bits4 : waitsOk impl_copied.T4.2 impl_copied.B4 = true := by kernel_rfl
set_option maxHeartbeats 8000000 in
set_option maxRecDepth 100000 in
theorem impl_copied.calls (k : Nat) (A0 : Option Addr) (c0 : Nat) (l0 : List (S44)) (r : List (S44)) (w : World) (hr0 : Kd.C k44 w A0 l0.length l0) (hc0 : l0.length ≤ c0) (h : impl_copied.f k l0 = some r) :
    Calls Tryz.prog 60 #[.slice A0 l0.length c0] w fun e w' => ∃ v0_ : Value, e = .returned (v0_) ∧ Kd.S k44 44 w' w.heap.size (fun _ => True) v0_ r ∧ Below w.heap.size w w' := by
  have hu44 := Tryz.underlying44
  have HR0 := Aside0.mk hr0
  have HC0 := Aside0.mk hc0
  clear hr0 hc0
  have HB := Aside0.mk (Below.refl w.heap.size w)
  have H : (impl_copied.l0 k ([] : List (S44)) l0 (l0.length : Int) 0) = some r := h
  clear h
  have H' := Aside0.mk H
  clear H
  go_enter Tryz.func60, Tryz.ntmps60
  go_wp2
  go_loopg [2, 7] k (fun kq v2 v7 w' => ∃ (x2_1 : List (S44)) (x7_1 : Int), v7 = .int .i64 x7_1 ∧ Aside0 (impl_copied.l0 kq x2_1 l0 (l0.length : Int) x7_1 = some r) ∧ Aside0 (kq ≤ k) ∧ Aside0 (Kd.S k44 44 w' w.heap.size (fun _ => True) v2 x2_1) ∧ Aside0 (Below w.heap.size w w'))
  case atStart => exact ⟨(([] : List (S44))), (0), (by first | rfl | (simp; done) | (simp [*]; done)), H', ⟨Nat.le_refl _⟩, ⟨by first | exact Kd.S_nil _ _ _ _ _ | exact Kd.N_nil _ _ _ _ _ | exact Kd.V_nil _ _ _ _ _ | exact Kd.Q_nil _ _ _ _ _ | exact Kd.R_nil _ _ _ _ _⟩, ⟨by repeat (first | (with_reducible first | exact HB.out | apply below_alloc | apply pw_below_drewN | apply below_drew1) | exact HB.out)⟩⟩
  case round =>
    clear H'
    obtain ⟨x2_1, x7_1, rfl, HA, HK1, HO_2, HB⟩ := hrel
    cases gk with
    | zero => exact absurd HA.out (by simp [impl_copied.l0])
    | succ k1 =>
      have H := HA.out
      clear HA
      simp only [impl_copied.l0] at H
      by_cases c2 : x7_1 < (l0.length : Int)
      · rw [if_pos c2] at H
        have c2b0 : decide (x7_1 < (l0.length : Int)) = true := decide_eq_true c2
        clear c2
        by_cases c3 : 0 ≤ x7_1
        · rw [if_pos c3] at H
          have c3b0 : decide (0 ≤ x7_1) = true := decide_eq_true c3
          clear c3
          by_cases c4 : x7_1 < (l0.length : Int)
          · rw [if_pos c4] at H
            have c4b0 : decide (x7_1 < (l0.length : Int)) = true := decide_eq_true c4
            clear c4
            obtain ⟨y108, hy108⟩ : ∃ y_ : List Int, y_ = (([] : List Int)) := ⟨_, rfl⟩
            replace H : (if y108.length + ((rd_T44 l0 x7_1).f0).length < 140737488355328 then ((some (([] : List Int) : List Int)).bind fun y114 => (if y114.length + ((rd_T44 l0 x7_1).f1).length < 140737488355328 then (if x2_1.length < 2932031007402 then (impl_copied.l0 k1 (x2_1 ++ [(⟨(y108 ++ ((rd_T44 l0 x7_1).f0)), (y114 ++ ((rd_T44 l0 x7_1).f1))⟩ : S44)]) l0 (l0.length : Int) (wrap64 (x7_1 + 1))) else (none)) else (none))) else (none)) = some r := by first | (rw [hy108]; with_reducible exact H) | (have H2_ := (Option.bind_some _ _).symm.trans H; rw [hy108]; with_reducible exact H2_) | (have H2_ := (Option.bind_some _ _).symm.trans H; with_reducible exact H2_) | with_reducible exact H | (rw [hy108]; exact H) | exact H
            have Ny108 := Aside0.mk hy108
            clear hy108
            by_cases c5 : y108.length + ((rd_T44 l0 x7_1).f0).length < 140737488355328
            · rw [if_pos c5] at H
              have LMc5 := Aside0.mk c5
              clear c5
              obtain ⟨y111, hy111⟩ : ∃ y_ : List Int, y_ = (y108 ++ ((rd_T44 l0 x7_1).f0)) := ⟨_, rfl⟩
              replace H : ((some (([] : List Int) : List Int)).bind fun y114 => (if y114.length + ((rd_T44 l0 x7_1).f1).length < 140737488355328 then (if x2_1.length < 2932031007402 then (impl_copied.l0 k1 (x2_1 ++ [(⟨y111, (y114 ++ ((rd_T44 l0 x7_1).f1))⟩ : S44)]) l0 (l0.length : Int) (wrap64 (x7_1 + 1))) else (none)) else (none))) = some r := by first | (rw [hy111]; with_reducible exact H) | (have H2_ := (Option.bind_some _ _).symm.trans H; rw [hy111]; with_reducible exact H2_) | (have H2_ := (Option.bind_some _ _).symm.trans H; with_reducible exact H2_) | with_reducible exact H | (rw [hy111]; exact H) | exact H
              have Ny111 := Aside0.mk hy111
              clear hy111
              obtain ⟨y114, hy114⟩ : ∃ y_ : List Int, y_ = (([] : List Int)) := ⟨_, rfl⟩
              replace H : (if y114.length + ((rd_T44 l0 x7_1).f1).length < 140737488355328 then (if x2_1.length < 2932031007402 then (impl_copied.l0 k1 (x2_1 ++ [(⟨y111, (y114 ++ ((rd_T44 l0 x7_1).f1))⟩ : S44)]) l0 (l0.length : Int) (wrap64 (x7_1 + 1))) else (none)) else (none)) = some r := by first | (rw [hy114]; with_reducible exact H) | (have H2_ := (Option.bind_some _ _).symm.trans H; rw [hy114]; with_reducible exact H2_) | (have H2_ := (Option.bind_some _ _).symm.trans H; with_reducible exact H2_) | with_reducible exact H | (rw [hy114]; exact H) | exact H
              have Ny114 := Aside0.mk hy114
              clear hy114
              by_cases c6 : y114.length + ((rd_T44 l0 x7_1).f1).length < 140737488355328
              · rw [if_pos c6] at H
                have LMc6 := Aside0.mk c6
                clear c6
                obtain ⟨y117, hy117⟩ : ∃ y_ : List Int, y_ = (y114 ++ ((rd_T44 l0 x7_1).f1)) := ⟨_, rfl⟩
                replace H : (if x2_1.length < 2932031007402 then (impl_copied.l0 k1 (x2_1 ++ [(⟨y111, y117⟩ : S44)]) l0 (l0.length : Int) (wrap64 (x7_1 + 1))) else (none)) = some r := by first | (rw [hy117]; with_reducible exact H) | (have H2_ := (Option.bind_some _ _).symm.trans H; rw [hy117]; with_reducible exact H2_) | (have H2_ := (Option.bind_some _ _).symm.trans H; with_reducible exact H2_) | with_reducible exact H | (rw [hy117]; exact H) | exact H
                have Ny117 := Aside0.mk hy117
                clear hy117
                by_cases c7 : x2_1.length < 2932031007402
                · rw [if_pos c7] at H
                  have LMc7 := Aside0.mk c7
                  clear c7
                  obtain ⟨y120, hy120⟩ : ∃ y_ : List (S44), y_ = (x2_1 ++ [(⟨y111, y117⟩ : S44)]) := ⟨_, rfl⟩
                  replace H : (impl_copied.l0 k1 y120 l0 (l0.length : Int) (wrap64 (x7_1 + 1))) = some r := by first | (rw [hy120]; with_reducible exact H) | (have H2_ := (Option.bind_some _ _).symm.trans H; rw [hy120]; with_reducible exact H2_) | (have H2_ := (Option.bind_some _ _).symm.trans H; with_reducible exact H2_) | with_reducible exact H | (rw [hy120]; exact H) | exact H
                  have Ny120 := Aside0.mk hy120
                  clear hy120
                  have H' := Aside0.mk H
                  clear H
                  have p106 : 0 ≤ (x7_1 : Int) := of_decide_eq_true (by first | (with_reducible assumption) | assumption)
                  have q106 : x7_1 < (l0.length : Int) := of_decide_eq_true (by first | (with_reducible assumption) | assumption)
                  obtain ⟨ad106, A106_0, c106_0, A106_1, c106_1, e106, hx106_0, hx106_1, hl106_0, hi106_0, hl106_1, hi106_1⟩ := at_T44 HR0.out x7_1 p106 q106
                  cases e106
                  replace hx106_0 := (HB.out.cell (World.block_lt_of_cell? w _ hx106_0)).trans hx106_0
                  replace hx106_1 := (HB.out.cell (World.block_lt_of_cell? w _ hx106_1)).trans hx106_1
                  have HR106_0 := Aside0.mk hi106_0
                  have HC106_0 := Aside0.mk hl106_0
                  clear hi106_0 hl106_0
                  have HR106_1 := Aside0.mk hi106_1
                  have HC106_1 := Aside0.mk hl106_1
                  clear hi106_1 hl106_1
                  replace p106 := eq_true p106
                  replace q106 := eq_true q106
                  try go_wp2_with (first | ((with_reducible refine gate_dst (N := 4) rfl ?_); refine box_event ?hg (N := 4) ?hd (cs := #[.slice none 0 0, .slice none 0 0]) (t := 44) ?hr ?_; (case hd => rfl); (case hg => rfl); (case hr => first | (go_simp; done) | (go_simp; rfl)); intro gb107 hg w8 hbox hb; have n0_ := Aside0.mk (Kd.S_below (Kd.S_elderB (by (with_reducible repeat (first | apply Kd.S_alloc | apply Kd.S_drewN | apply Kd.S_drew)); exact HO_2.out) gb107 (Nat.le_of_eq hg.symm)) hb); have n1_ := Aside0.mk (below_step (by repeat (first | (with_reducible first | exact HB.out | apply below_alloc | apply pw_below_drewN | apply below_drew1) | exact HB.out)) hb); have n2_ := Aside0.mk (hbox); have n3_ := Aside0.mk ((by rw [hg]; exact (below_size (by repeat (first | (with_reducible first | exact HB.out | apply below_alloc | apply pw_below_drewN | apply below_drew1) | exact HB.out))) : w.heap.size ≤ gb107)); have n4_ := Aside0.mk ((by rw [hg]; exact (below_size (by repeat (first | (with_reducible first | exact HB.out | apply below_alloc | apply pw_below_drewN | apply below_drew1) | exact HB.out))) : w.heap.size ≤ gb107)); clear HO_2; clear HB; have HO_2 := n0_; have HB := n1_; have BK107 := n2_; have GW107 := n3_; have GE107 := n4_; clear n0_ n1_ n2_ n3_ n4_; clear hb hbox hg; have hcz9_0 : w8.cell? ⟨gb107, 0, none⟩ = some (.slice none 0 0) := (blk_cell BK107.out 0).trans rfl; have hcz9_1 : w8.cell? ⟨gb107, 1, none⟩ = some (.slice none 0 0) := (blk_cell BK107.out 1).trans rfl; have hfz9_0 := blk_frozen BK107.out 0; have hfz9_1 := blk_frozen BK107.out 1; obtain ⟨Ao10, co10, eo10⟩ := Kd.S_slice HO_2.out; subst eo10))
                  have n0_ : Aside0 (Kd.S k44 44 ((w8.setCell ⟨gb107, 0, none⟩ (.slice A106_0 ((rd_T44 l0 x7_1).f0).length c106_0)).setCell ⟨gb107, 1, none⟩ (.slice A106_1 ((rd_T44 l0 x7_1).f1).length c106_1)) w.heap.size (fun k_ => k_ ≠ gb107) (.slice Ao10 x2_1.length co10) x2_1) := ⟨by (with_reducible repeat (first | apply Kd.S_alloc | apply Kd.S_drewN | apply Kd.S_drew)); exact Kd.S_mono (Kd.S_far (p := ⟨gb107, 1, none⟩) (Kd.S_far (p := ⟨gb107, 0, none⟩) (Kd.S_mono HO_2.out (fun k_ hk => (⟨hk, hk.2⟩ : _ ∧ k_ ≠ gb107))) (fun _ hk => hk.2) (.slice A106_0 ((rd_T44 l0 x7_1).f0).length c106_0)) (fun _ hk => hk.2) (.slice A106_1 ((rd_T44 l0 x7_1).f1).length c106_1)) (fun _ hk => hk.1.2)⟩
                  have n1_ : Aside0 (((w8.setCell ⟨gb107, 0, none⟩ (.slice A106_0 ((rd_T44 l0 x7_1).f0).length c106_0)).setCell ⟨gb107, 1, none⟩ (.slice A106_1 ((rd_T44 l0 x7_1).f1).length c106_1)).heap[gb107]? = some (.cells #[.slice A106_0 ((rd_T44 l0 x7_1).f0).length c106_0, .slice A106_1 ((rd_T44 l0 x7_1).f1).length c106_1] 44 (0, 0))) := ⟨by (with_reducible repeat (first | refine blk_drewN ?_ _ | refine blk_drew ?_ | refine blk_alloc ?_ _)); refine blk_put (cs := #[.slice A106_0 ((rd_T44 l0 x7_1).f0).length c106_0, .slice none 0 0]) ?_ 1 _ rfl; (with_reducible repeat (first | refine blk_drewN ?_ _ | refine blk_drew ?_ | refine blk_alloc ?_ _)); refine blk_put (cs := #[.slice none 0 0, .slice none 0 0]) ?_ 0 _ rfl; (with_reducible repeat (first | refine blk_drewN ?_ _ | refine blk_drew ?_ | refine blk_alloc ?_ _)); exact BK107.out⟩
                  have n2_ : Aside0 (Below w.heap.size w ((w8.setCell ⟨gb107, 0, none⟩ (.slice A106_0 ((rd_T44 l0 x7_1).f0).length c106_0)).setCell ⟨gb107, 1, none⟩ (.slice A106_1 ((rd_T44 l0 x7_1).f1).length c106_1))) := ⟨by repeat (first | (with_reducible first | exact HB.out | apply below_alloc | apply pw_below_drewN | apply below_drew1 | refine below_set ?_ GE107.out) | exact HB.out)⟩
                  (try clear HO_2)
                  (try clear BK107)
                  (try clear HB)
                  generalize ((w8.setCell ⟨gb107, 0, none⟩ (.slice A106_0 ((rd_T44 l0 x7_1).f0).length c106_0)).setCell ⟨gb107, 1, none⟩ (.slice A106_1 ((rd_T44 l0 x7_1).f1).length c106_1)) = w11 at n0_ n1_ n2_ ⊢
                  have HO_2 := n0_
                  have BK107 := n1_
                  have HB := n2_
                  clear n0_ n1_ n2_
                  have n0_ := Aside0.mk (Kd.S_drew HO_2.out)
                  have n1_ := Aside0.mk (blk_drew BK107.out)
                  have n2_ := Aside0.mk (below_drew1 HB.out)
                  clear HO_2
                  clear BK107
                  clear HB
                  have HO_2 := n0_
                  have BK107 := n1_
                  have HB := n2_
                  clear n0_ n1_ n2_
                  refine start_ (n := 13) (S := fun w' => w'.cell? ⟨gb107, 0, none⟩ = some (.slice A106_0 ((rd_T44 l0 x7_1).f0).length c106_0) ∧ w'.cell? ⟨gb107, 1, none⟩ = some (.slice A106_1 ((rd_T44 l0 x7_1).f1).length c106_1)) (ds := []) #[false, false, false, false, false, false, false, false, false, false, false, false, false] (by kernel_rfl) rfl rfl ⟨(blk_cell BK107.out 0).trans rfl, (blk_cell BK107.out 1).trans rfl⟩ (fun hHeld => ?_); refine with_tabW impl_copied.tab4 impl_copied.bits4 (fun HT_ HW_ => ?_)
                  generalize w11.drew = w12 at HO_2 BK107 HB hHeld ⊢
                  refine pure_ (i := 0) (N := some 11) (v := ?_) (a' := ?_) #[true, false, false, false, false, false, false, false, false, false, false, false, false] rfl rfl (any_of HT_.out (by kernel_rfl)) (fun _ _ _ h => h) (Or.inl ⟨by rfl, ?_⟩) ?_ ?_
                  rotate_left
                  · intro w'
                    go_simp
                    with_reducible rfl
                  rotate_left
                  · simp only [Act.put, List.setIfInBounds_toArray, List.set_cons_zero, List.set_cons_succ, i64_w, i32_w]
                    rfl
                  refine pure_ (i := 2) (N := some 13) (v := ?_) (a' := ?_) #[true, false, true, false, false, false, false, false, false, false, false, false, false] rfl rfl (any_of HT_.out (by kernel_rfl)) (fun _ _ _ h => h) (Or.inl ⟨by rfl, ?_⟩) ?_ ?_
                  rotate_left
                  · intro w'
                    go_simp
                    with_reducible rfl
                  rotate_left
                  · simp only [Act.put, List.setIfInBounds_toArray, List.set_cons_zero, List.set_cons_succ, i64_w, i32_w]
                    rfl
                  refine pure_ (i := 6) (N := some 17) (v := ?_) (a' := ?_) #[true, false, true, false, false, false, true, false, false, false, false, false, false] rfl rfl (any_of HT_.out (by kernel_rfl)) (fun _ _ _ h => h) (Or.inl ⟨by rfl, ?_⟩) ?_ ?_
                  rotate_left
                  · intro w'
                    go_simp
                    with_reducible rfl
                  rotate_left
                  · simp only [Act.put, List.setIfInBounds_toArray, List.set_cons_zero, List.set_cons_succ, i64_w, i32_w]
                    rfl
                  refine take_ (i := 3) (N := some 14) (v := ?_) (a' := ?_) #[true, false, true, true, false, false, true, false, false, false, false, false, false] rfl rfl (take_ofW HT_.out HW_.out (by kernel_rfl)) (fun _ _ _ h => h) (Or.inl ⟨by rfl, ?_⟩) hHeld ?_ ?_
                  rotate_left
                  · rintro w' ⟨s0, s1⟩
                    go_simp
                    with_reducible rfl
                  rotate_left
                  · simp only [Act.put, List.setIfInBounds_toArray, List.set_cons_zero, List.set_cons_succ, i64_w, i32_w]
                    rfl
                  refine take_ (i := 7) (N := some 18) (v := ?_) (a' := ?_) #[true, false, true, true, false, false, true, true, false, false, false, false, false] rfl rfl (take_ofW HT_.out HW_.out (by kernel_rfl)) (fun _ _ _ h => h) (Or.inl ⟨by rfl, ?_⟩) hHeld ?_ ?_
                  rotate_left
                  · rintro w' ⟨s0, s1⟩
                    go_simp
                    with_reducible rfl
                  rotate_left
                  · simp only [Act.put, List.setIfInBounds_toArray, List.set_cons_zero, List.set_cons_succ, i64_w, i32_w]
                    rfl
                  refine join_ (σ := Value × Value × Value) 5 #[true, true, true, true, true, true, true, true, false, false, false, false, false] (fun s_ => [(12, s_.1), (15, s_.2.1), (16, s_.2.2)]) (fun s_ w' => (w'.cell? ⟨gb107, 0, none⟩ = some (.slice A106_0 ((rd_T44 l0 x7_1).f0).length c106_0) ∧ w'.cell? ⟨gb107, 1, none⟩ = some (.slice A106_1 ((rd_T44 l0 x7_1).f1).length c106_1)) ∧ (Kd.R (Kd.int .u8) 5 w' w.heap.size (fun k_ => some k_ ≠ (s_.2.2 : Value).ownBlock) s_.2.1 y111) ∧ (Kd.R (Kd.int .u8) 5 w' w.heap.size (fun k_ => some k_ ≠ (s_.2.1 : Value).ownBlock) s_.2.2 y114) ∧ (Kd.S k44 44 w' w.heap.size (fun k_ => some k_ ≠ (s_.2.1 : Value).ownBlock ∧ some k_ ≠ (s_.2.2 : Value).ownBlock ∧ k_ ≠ gb107) (.slice Ao10 x2_1.length co10) x2_1) ∧ (w'.heap[gb107]? = some (.cells #[.slice A106_0 ((rd_T44 l0 x7_1).f0).length c106_0, .slice A106_1 ((rd_T44 l0 x7_1).f1).length c106_1] 44 (0, 0))) ∧ (Below w.heap.size w w')) ?_ ?_
                  rotate_left
                  · intro hCont
                    refine two_ (i := 1) (j := 5) (Ni := some 12) (Nj := some 16) #[true, true, true, true, false, false, true, true, false, false, false, false, false] #[true, false, true, true, false, true, true, true, false, false, false, false, false] rfl rfl rfl rfl (two_of HT_.out (by kernel_rfl)) (by decide) (by decide) (fun K hK => ?_) (fun K hK => ?_)
                    · skip
                      refine Kd.R_lit_step (Kd.int .u8) _ 5 ?hg (N := 12) ?hd (xs := ([] : List Int)) (inner := []) (ok := fun _ => True) (okp := fun _ => True) ?hr ?hp (fun _ hk => hk) trivial (Below.refl _ _) (Nat.le_refl _) (by simp) ?_; (case hd => rfl); (case hg => rfl); (case hr => first | (go_simp; done) | (go_simp; rfl)); (case hp => exact (Reps.none _ _))
                      intro v109 w13 ho14 hb hg_ hnew_
                      clear hg_ hnew_
                      (first | rw [← Ny108.out] at ho14 | (simp only [Int.reduceToNat] at ho14; rw [← Ny108.out] at ho14))
                      have n0_ := Aside0.mk (Kd.S_elder' (by (with_reducible repeat (first | apply Kd.S_alloc | apply Kd.S_drewN | apply Kd.S_drew)); exact HO_2.out) (Kd.R_base ho14) hb)
                      have n1_ := Aside0.mk (Kd.R_lower ho14 (below_size (by repeat (first | (with_reducible first | exact HB.out | apply below_alloc | apply pw_below_drewN | apply below_drew1 | refine below_set ?_ GE107.out) | exact HB.out))))
                      have n2_ := Aside0.mk (blk_below (g := gb107) (o := .cells #[.slice A106_0 ((rd_T44 l0 x7_1).f0).length c106_0, .slice A106_1 ((rd_T44 l0 x7_1).f1).length c106_1] 44 (0, 0)) (by (with_reducible repeat (first | refine blk_drewN ?_ _ | refine blk_drew ?_ | refine blk_alloc ?_ _)); exact BK107.out) hb)
                      have n3_ := Aside0.mk (below_step (by repeat (first | (with_reducible first | exact HB.out | apply below_alloc | apply pw_below_drewN | apply below_drew1 | refine below_set ?_ GE107.out) | exact HB.out)) hb)
                      clear HO_2
                      clear BK107
                      clear HB
                      have HO_2 := n0_
                      have HO110 := n1_
                      have BK107 := n2_
                      have HB := n3_
                      clear n0_ n1_ n2_ n3_
                      clear hb ho14
                      refine hK.out _ _ ⟨(blk_cell BK107.out 0).trans rfl, (blk_cell BK107.out 1).trans rfl⟩ (fun hHeld => ?_)
                      clear hK K
                      refine norm_ (a' := ?_) ?_ ?_
                      rotate_left
                      · show Act.put _ (some 12) _ = _
                        simp only [Act.put, List.setIfInBounds_toArray, List.set_cons_zero, List.set_cons_succ, i64_w, i32_w]
                        rfl
                      refine two_ (i := 4) (j := 5) (Ni := some 15) (Nj := some 16) #[true, true, true, true, true, false, true, true, false, false, false, false, false] #[true, true, true, true, false, true, true, true, false, false, false, false, false] rfl rfl rfl rfl (two_of HT_.out (by kernel_rfl)) (by decide) (by decide) (fun K hK => ?_) (fun K hK => ?_)
                      · skip
                        refine Kd.R_append_rows_step (Kd.int .u8) (w0 := w) w.heap.size (by rfl) (.tmp 12) (.tmp 14) 25 5 (.int .u8 0) 1 rfl Tryz.underlying25 info5 rfl (by decide) (by omega) v109 y108 ((rd_T44 l0 x7_1).f0) _ _ _ (fun _ => True) (fun _ => False) rfl rfl ?aO ?aR (fun _ _ h => h) (fun _ h => h.elim) ?aF ?aB ?aS ?aL ?_
                        (case aR => repeat (first | exact (Kd.C_below HR106_0.out HB.out) | (with_reducible refine Kd.C_alloc ?_ _) | (with_reducible refine Kd.C_drewN ?_ _) | (with_reducible refine Kd.C_drew ?_)))
                        (case aB => exact (by repeat (first | (with_reducible first | exact HB.out | apply below_alloc | apply pw_below_drewN | apply below_drew1 | refine below_set ?_ GE107.out) | exact HB.out)))
                        (case aF => exact (fun _ _ => trivial))
                        (case aO => exact (by (with_reducible repeat (first | apply Kd.R_alloc | apply Kd.R_drewN | apply Kd.R_drew)); exact HO110.out))
                        (case aS => exact (below_size (by repeat (first | (with_reducible first | exact HB.out | apply below_alloc | apply pw_below_drewN | apply below_drew1 | refine below_set ?_ GE107.out) | exact HB.out))))
                        (case aL => have := LMc5.out; omega)
                        intro v112 w15 ho hb hg hat
                        rw [← Ny111.out] at ho
                        have n0_ := Aside0.mk (Kd.S_after (ok := (fun k_ => k_ ≠ gb107)) (by (with_reducible repeat (first | apply Kd.S_alloc | apply Kd.S_drewN | apply Kd.S_drew)); exact HO_2.out) hg hat)
                        have n1_ := Aside0.mk (blk_grown (g := gb107) (o := .cells #[.slice A106_0 ((rd_T44 l0 x7_1).f0).length c106_0, .slice A106_1 ((rd_T44 l0 x7_1).f1).length c106_1] 44 (0, 0)) (by (with_reducible repeat (first | refine blk_drewN ?_ _ | refine blk_drew ?_ | refine blk_alloc ?_ _)); exact BK107.out) hg (Kd.R_ne HO110.out BK107.out (by decide)))
                        have n2_ := Aside0.mk (hb)
                        have n3_ := Aside0.mk (ho)
                        clear HO_2
                        clear BK107
                        clear HB
                        clear HO110
                        have HO_2 := n0_
                        have BK107 := n1_
                        have HB := n2_
                        have HO113 := n3_
                        clear n0_ n1_ n2_ n3_
                        clear ho hb hg hat
                        refine hK.out _ _ ⟨(blk_cell BK107.out 0).trans rfl, (blk_cell BK107.out 1).trans rfl⟩ (fun hHeld => ?_)
                        clear hK K
                        refine norm_ (a' := ?_) ?_ ?_
                        rotate_left
                        · show Act.put _ (some 15) _ = _
                          simp only [Act.put, List.setIfInBounds_toArray, List.set_cons_zero, List.set_cons_succ, i64_w, i32_w]
                          rfl
                        refine one_ (i := 5) (N := some 16) #[true, true, true, true, true, true, true, true, false, false, false, false, false] rfl rfl (one_of HT_.out (by kernel_rfl)) (by decide) (fun K hK => ?_)
                        refine Kd.R_lit_step (Kd.int .u8) _ 5 ?hg (N := 16) ?hd (xs := ([] : List Int)) (inner := []) (ok := fun _ => True) (okp := fun _ => True) ?hr ?hp (fun _ hk => hk) trivial (Below.refl _ _) (Nat.le_refl _) (by simp) ?_; (case hd => rfl); (case hg => rfl); (case hr => first | (go_simp; done) | (go_simp; rfl)); (case hp => exact (Reps.none _ _))
                        intro v115 w16 ho17 hb hg_ hnew_
                        clear hg_ hnew_
                        (first | rw [← Ny114.out] at ho17 | (simp only [Int.reduceToNat] at ho17; rw [← Ny114.out] at ho17))
                        have n0_ := Aside0.mk (Kd.S_elder' (by (with_reducible repeat (first | apply Kd.S_alloc | apply Kd.S_drewN | apply Kd.S_drew)); exact HO_2.out) (Kd.R_base ho17) hb)
                        have n1_ := Aside0.mk (Kd.R_elder' (by (with_reducible repeat (first | apply Kd.R_alloc | apply Kd.R_drewN | apply Kd.R_drew)); exact HO113.out) (Kd.R_base ho17) hb)
                        have n2_ := Aside0.mk (Kd.R_lower (Kd.R_new' ho17 (Kd.R_lt (by (with_reducible repeat (first | apply Kd.R_alloc | apply Kd.R_drewN | apply Kd.R_drew)); exact HO113.out))) (below_size (by repeat (first | (with_reducible first | exact HB.out | apply below_alloc | apply pw_below_drewN | apply below_drew1 | refine below_set ?_ GE107.out) | exact HB.out))))
                        have n3_ := Aside0.mk (blk_below (g := gb107) (o := .cells #[.slice A106_0 ((rd_T44 l0 x7_1).f0).length c106_0, .slice A106_1 ((rd_T44 l0 x7_1).f1).length c106_1] 44 (0, 0)) (by (with_reducible repeat (first | refine blk_drewN ?_ _ | refine blk_drew ?_ | refine blk_alloc ?_ _)); exact BK107.out) hb)
                        have n4_ := Aside0.mk (below_step (by repeat (first | (with_reducible first | exact HB.out | apply below_alloc | apply pw_below_drewN | apply below_drew1 | refine below_set ?_ GE107.out) | exact HB.out)) hb)
                        clear HO_2
                        clear HO113
                        clear BK107
                        clear HB
                        have HO_2 := n0_
                        have HO113 := n1_
                        have HO116 := n2_
                        have BK107 := n3_
                        have HB := n4_
                        clear n0_ n1_ n2_ n3_ n4_
                        clear hb ho17
                        refine hK.out _ _ ⟨(blk_cell BK107.out 0).trans rfl, (blk_cell BK107.out 1).trans rfl⟩ (fun hHeld => ?_)
                        clear hK K
                        refine norm_ (a' := ?_) ?_ ?_
                        rotate_left
                        · show Act.put _ (some 16) _ = _
                          simp only [Act.put, List.setIfInBounds_toArray, List.set_cons_zero, List.set_cons_succ, i64_w, i32_w]
                          rfl
                        exact norm_ (by simp only [putAll, Act.put, List.setIfInBounds_toArray, List.set_cons_zero, List.set_cons_succ]) (hCont (v109, v112, v115) _ ⟨hHeld, (by (with_reducible repeat (first | apply Kd.R_alloc | apply Kd.R_drewN | apply Kd.R_drew)); exact Kd.R_mono HO113.out (fun _ hk => hk.2)), (by (with_reducible repeat (first | apply Kd.R_alloc | apply Kd.R_drewN | apply Kd.R_drew)); exact Kd.R_mono HO116.out (fun _ hk => hk.2)), (by (with_reducible repeat (first | apply Kd.S_alloc | apply Kd.S_drewN | apply Kd.S_drew)); exact Kd.S_mono HO_2.out (fun _ hk => ⟨hk.1.2, ⟨hk.2, hk.1.1⟩⟩)), (by (with_reducible repeat (first | refine blk_drewN ?_ _ | refine blk_drew ?_ | refine blk_alloc ?_ _)); exact BK107.out), (by repeat (first | (with_reducible first | exact HB.out | apply below_alloc | apply pw_below_drewN | apply below_drew1 | refine below_set ?_ GE107.out) | exact HB.out))⟩)
                      · skip
                        refine Kd.R_lit_step (Kd.int .u8) _ 5 ?hg (N := 16) ?hd (xs := ([] : List Int)) (inner := []) (ok := fun _ => True) (okp := fun _ => True) ?hr ?hp (fun _ hk => hk) trivial (Below.refl _ _) (Nat.le_refl _) (by simp) ?_; (case hd => rfl); (case hg => rfl); (case hr => first | (go_simp; done) | (go_simp; rfl)); (case hp => exact (Reps.none _ _))
                        intro v115 w15 ho16 hb hg_ hnew_
                        clear hg_ hnew_
                        (first | rw [← Ny114.out] at ho16 | (simp only [Int.reduceToNat] at ho16; rw [← Ny114.out] at ho16))
                        have n0_ := Aside0.mk (Kd.S_elder' (by (with_reducible repeat (first | apply Kd.S_alloc | apply Kd.S_drewN | apply Kd.S_drew)); exact HO_2.out) (Kd.R_base ho16) hb)
                        have n1_ := Aside0.mk (Kd.R_elder' (by (with_reducible repeat (first | apply Kd.R_alloc | apply Kd.R_drewN | apply Kd.R_drew)); exact HO110.out) (Kd.R_base ho16) hb)
                        have n2_ := Aside0.mk (Kd.R_lower (Kd.R_new' ho16 (Kd.R_lt (by (with_reducible repeat (first | apply Kd.R_alloc | apply Kd.R_drewN | apply Kd.R_drew)); exact HO110.out))) (below_size (by repeat (first | (with_reducible first | exact HB.out | apply below_alloc | apply pw_below_drewN | apply below_drew1 | refine below_set ?_ GE107.out) | exact HB.out))))
                        have n3_ := Aside0.mk (blk_below (g := gb107) (o := .cells #[.slice A106_0 ((rd_T44 l0 x7_1).f0).length c106_0, .slice A106_1 ((rd_T44 l0 x7_1).f1).length c106_1] 44 (0, 0)) (by (with_reducible repeat (first | refine blk_drewN ?_ _ | refine blk_drew ?_ | refine blk_alloc ?_ _)); exact BK107.out) hb)
                        have n4_ := Aside0.mk (below_step (by repeat (first | (with_reducible first | exact HB.out | apply below_alloc | apply pw_below_drewN | apply below_drew1 | refine below_set ?_ GE107.out) | exact HB.out)) hb)
                        clear HO_2
                        clear HO110
                        clear BK107
                        clear HB
                        have HO_2 := n0_
                        have HO110 := n1_
                        have HO116 := n2_
                        have BK107 := n3_
                        have HB := n4_
                        clear n0_ n1_ n2_ n3_ n4_
                        clear hb ho16
                        refine hK.out _ _ ⟨(blk_cell BK107.out 0).trans rfl, (blk_cell BK107.out 1).trans rfl⟩ (fun hHeld => ?_)
                        clear hK K
                        refine norm_ (a' := ?_) ?_ ?_
                        rotate_left
                        · show Act.put _ (some 16) _ = _
                          simp only [Act.put, List.setIfInBounds_toArray, List.set_cons_zero, List.set_cons_succ, i64_w, i32_w]
                          rfl
                        refine one_ (i := 4) (N := some 15) #[true, true, true, true, true, true, true, true, false, false, false, false, false] rfl rfl (one_of HT_.out (by kernel_rfl)) (by decide) (fun K hK => ?_)
                        refine Kd.R_append_rows_step (Kd.int .u8) (w0 := w) w.heap.size (by rfl) (.tmp 12) (.tmp 14) 25 5 (.int .u8 0) 1 rfl Tryz.underlying25 info5 rfl (by decide) (by omega) v109 y108 ((rd_T44 l0 x7_1).f0) _ _ _ (fun k_ => some k_ ≠ (v115 : Value).ownBlock) (fun _ => False) rfl rfl ?aO ?aR (fun _ _ h => h) (fun _ h => h.elim) ?aF ?aB ?aS ?aL ?_
                        (case aR => repeat (first | exact (Kd.C_below HR106_0.out HB.out) | (with_reducible refine Kd.C_alloc ?_ _) | (with_reducible refine Kd.C_drewN ?_ _) | (with_reducible refine Kd.C_drew ?_)))
                        (case aB => exact (by repeat (first | (with_reducible first | exact HB.out | apply below_alloc | apply pw_below_drewN | apply below_drew1 | refine below_set ?_ GE107.out) | exact HB.out)))
                        (case aF => exact (fun k_ hk => Kd.fresh' (Kd.R_lt (by (with_reducible repeat (first | apply Kd.R_alloc | apply Kd.R_drewN | apply Kd.R_drew)); exact HO116.out)) k_ hk))
                        (case aO => exact (by (with_reducible repeat (first | apply Kd.R_alloc | apply Kd.R_drewN | apply Kd.R_drew)); exact Kd.R_mono HO110.out (fun _ hk => hk.2)))
                        (case aS => exact (below_size (by repeat (first | (with_reducible first | exact HB.out | apply below_alloc | apply pw_below_drewN | apply below_drew1 | refine below_set ?_ GE107.out) | exact HB.out))))
                        (case aL => have := LMc5.out; omega)
                        intro v112 w17 ho hb hg hat
                        rw [← Ny111.out] at ho
                        have n0_ := Aside0.mk (Kd.S_after (ok := (fun k_ => some k_ ≠ (v115 : Value).ownBlock ∧ k_ ≠ gb107)) (by (with_reducible repeat (first | apply Kd.S_alloc | apply Kd.S_drewN | apply Kd.S_drew)); exact Kd.S_mono HO_2.out (fun _ hk => ⟨⟨hk.2, hk.1.1⟩, hk.1.2⟩)) hg hat)
                        have n1_ := Aside0.mk (blk_grown (g := gb107) (o := .cells #[.slice A106_0 ((rd_T44 l0 x7_1).f0).length c106_0, .slice A106_1 ((rd_T44 l0 x7_1).f1).length c106_1] 44 (0, 0)) (by (with_reducible repeat (first | refine blk_drewN ?_ _ | refine blk_drew ?_ | refine blk_alloc ?_ _)); exact BK107.out) hg (Kd.R_ne HO110.out BK107.out (by decide)))
                        have n2_ := Aside0.mk (Kd.R_after (ok := (fun _ => True)) (by (with_reducible repeat (first | apply Kd.R_alloc | apply Kd.R_drewN | apply Kd.R_drew)); exact HO116.out) hg hat)
                        have n3_ := Aside0.mk (hb)
                        have n4_ := Aside0.mk (ho)
                        clear HO_2
                        clear BK107
                        clear HO116
                        clear HB
                        clear HO110
                        have HO_2 := n0_
                        have BK107 := n1_
                        have HO116 := n2_
                        have HB := n3_
                        have HO113 := n4_
                        clear n0_ n1_ n2_ n3_ n4_
                        clear ho hb hg hat
                        refine hK.out _ _ ⟨(blk_cell BK107.out 0).trans rfl, (blk_cell BK107.out 1).trans rfl⟩ (fun hHeld => ?_)
                        clear hK K
                        refine norm_ (a' := ?_) ?_ ?_
                        rotate_left
                        · show Act.put _ (some 15) _ = _
                          simp only [Act.put, List.setIfInBounds_toArray, List.set_cons_zero, List.set_cons_succ, i64_w, i32_w]
                          rfl
                        exact norm_ (by simp only [putAll, Act.put, List.setIfInBounds_toArray, List.set_cons_zero, List.set_cons_succ]) (hCont (v109, v112, v115) _ ⟨hHeld, (by (with_reducible repeat (first | apply Kd.R_alloc | apply Kd.R_drewN | apply Kd.R_drew)); exact HO113.out), (by (with_reducible repeat (first | apply Kd.R_alloc | apply Kd.R_drewN | apply Kd.R_drew)); exact Kd.R_mono HO116.out (fun _ hk => hk.2)), (by (with_reducible repeat (first | apply Kd.S_alloc | apply Kd.S_drewN | apply Kd.S_drew)); exact Kd.S_mono HO_2.out (fun _ hk => ⟨hk.2, ⟨hk.1.1, hk.1.2⟩⟩)), (by (with_reducible repeat (first | refine blk_drewN ?_ _ | refine blk_drew ?_ | refine blk_alloc ?_ _)); exact BK107.out), (by repeat (first | (with_reducible first | exact HB.out | apply below_alloc | apply pw_below_drewN | apply below_drew1 | refine below_set ?_ GE107.out) | exact HB.out))⟩)
                    · skip
                      refine Kd.R_lit_step (Kd.int .u8) _ 5 ?hg (N := 16) ?hd (xs := ([] : List Int)) (inner := []) (ok := fun _ => True) (okp := fun _ => True) ?hr ?hp (fun _ hk => hk) trivial (Below.refl _ _) (Nat.le_refl _) (by simp) ?_; (case hd => rfl); (case hg => rfl); (case hr => first | (go_simp; done) | (go_simp; rfl)); (case hp => exact (Reps.none _ _))
                      intro v115 w13 ho14 hb hg_ hnew_
                      clear hg_ hnew_
                      (first | rw [← Ny114.out] at ho14 | (simp only [Int.reduceToNat] at ho14; rw [← Ny114.out] at ho14))
                      have n0_ := Aside0.mk (Kd.S_elder' (by (with_reducible repeat (first | apply Kd.S_alloc | apply Kd.S_drewN | apply Kd.S_drew)); exact HO_2.out) (Kd.R_base ho14) hb)
                      have n1_ := Aside0.mk (Kd.R_lower ho14 (below_size (by repeat (first | (with_reducible first | exact HB.out | apply below_alloc | apply pw_below_drewN | apply below_drew1 | refine below_set ?_ GE107.out) | exact HB.out))))
                      have n2_ := Aside0.mk (blk_below (g := gb107) (o := .cells #[.slice A106_0 ((rd_T44 l0 x7_1).f0).length c106_0, .slice A106_1 ((rd_T44 l0 x7_1).f1).length c106_1] 44 (0, 0)) (by (with_reducible repeat (first | refine blk_drewN ?_ _ | refine blk_drew ?_ | refine blk_alloc ?_ _)); exact BK107.out) hb)
                      have n3_ := Aside0.mk (below_step (by repeat (first | (with_reducible first | exact HB.out | apply below_alloc | apply pw_below_drewN | apply below_drew1 | refine below_set ?_ GE107.out) | exact HB.out)) hb)
                      clear HO_2
                      clear BK107
                      clear HB
                      have HO_2 := n0_
                      have HO116 := n1_
                      have BK107 := n2_
                      have HB := n3_
                      clear n0_ n1_ n2_ n3_
                      clear hb ho14
                      refine hK.out _ _ ⟨(blk_cell BK107.out 0).trans rfl, (blk_cell BK107.out 1).trans rfl⟩ (fun hHeld => ?_)
                      clear hK K
                      refine norm_ (a' := ?_) ?_ ?_
                      rotate_left
                      · show Act.put _ (some 16) _ = _
                        simp only [Act.put, List.setIfInBounds_toArray, List.set_cons_zero, List.set_cons_succ, i64_w, i32_w]
                        rfl
                      refine one_ (i := 1) (N := some 12) #[true, true, true, true, false, true, true, true, false, false, false, false, false] rfl rfl (one_of HT_.out (by kernel_rfl)) (by decide) (fun K hK => ?_)
                      refine Kd.R_lit_step (Kd.int .u8) _ 5 ?hg (N := 12) ?hd (xs := ([] : List Int)) (inner := []) (ok := fun _ => True) (okp := fun _ => True) ?hr ?hp (fun _ hk => hk) trivial (Below.refl _ _) (Nat.le_refl _) (by simp) ?_; (case hd => rfl); (case hg => rfl); (case hr => first | (go_simp; done) | (go_simp; rfl)); (case hp => exact (Reps.none _ _))
                      intro v109 w15 ho16 hb hg_ hnew_
                      clear hg_ hnew_
                      (first | rw [← Ny108.out] at ho16 | (simp only [Int.reduceToNat] at ho16; rw [← Ny108.out] at ho16))
                      have n0_ := Aside0.mk (Kd.S_elder' (by (with_reducible repeat (first | apply Kd.S_alloc | apply Kd.S_drewN | apply Kd.S_drew)); exact HO_2.out) (Kd.R_base ho16) hb)
                      have n1_ := Aside0.mk (Kd.R_elder' (by (with_reducible repeat (first | apply Kd.R_alloc | apply Kd.R_drewN | apply Kd.R_drew)); exact HO116.out) (Kd.R_base ho16) hb)
                      have n2_ := Aside0.mk (Kd.R_lower (Kd.R_new' ho16 (Kd.R_lt (by (with_reducible repeat (first | apply Kd.R_alloc | apply Kd.R_drewN | apply Kd.R_drew)); exact HO116.out))) (below_size (by repeat (first | (with_reducible first | exact HB.out | apply below_alloc | apply pw_below_drewN | apply below_drew1 | refine below_set ?_ GE107.out) | exact HB.out))))
                      have n3_ := Aside0.mk (blk_below (g := gb107) (o := .cells #[.slice A106_0 ((rd_T44 l0 x7_1).f0).length c106_0, .slice A106_1 ((rd_T44 l0 x7_1).f1).length c106_1] 44 (0, 0)) (by (with_reducible repeat (first | refine blk_drewN ?_ _ | refine blk_drew ?_ | refine blk_alloc ?_ _)); exact BK107.out) hb)
                      have n4_ := Aside0.mk (below_step (by repeat (first | (with_reducible first | exact HB.out | apply below_alloc | apply pw_below_drewN | apply below_drew1 | refine below_set ?_ GE107.out) | exact HB.out)) hb)
                      clear HO_2
                      clear HO116
                      clear BK107
                      clear HB
                      have HO_2 := n0_
                      have HO116 := n1_
                      have HO110 := n2_
                      have BK107 := n3_
                      have HB := n4_
                      clear n0_ n1_ n2_ n3_ n4_
                      clear hb ho16
                      refine hK.out _ _ ⟨(blk_cell BK107.out 0).trans rfl, (blk_cell BK107.out 1).trans rfl⟩ (fun hHeld => ?_)
                      clear hK K
                      refine norm_ (a' := ?_) ?_ ?_
                      rotate_left
                      · show Act.put _ (some 12) _ = _
                        simp only [Act.put, List.setIfInBounds_toArray, List.set_cons_zero, List.set_cons_succ, i64_w, i32_w]
                        rfl
                      refine one_ (i := 4) (N := some 15) #[true, true, true, true, true, true, true, true, false, false, false, false, false] rfl rfl (one_of HT_.out (by kernel_rfl)) (by decide) (fun K hK => ?_)
                      refine Kd.R_append_rows_step (Kd.int .u8) (w0 := w) w.heap.size (by rfl) (.tmp 12) (.tmp 14) 25 5 (.int .u8 0) 1 rfl Tryz.underlying25 info5 rfl (by decide) (by omega) v109 y108 ((rd_T44 l0 x7_1).f0) _ _ _ (fun k_ => some k_ ≠ (v115 : Value).ownBlock) (fun _ => False) rfl rfl ?aO ?aR (fun _ _ h => h) (fun _ h => h.elim) ?aF ?aB ?aS ?aL ?_
                      (case aR => repeat (first | exact (Kd.C_below HR106_0.out HB.out) | (with_reducible refine Kd.C_alloc ?_ _) | (with_reducible refine Kd.C_drewN ?_ _) | (with_reducible refine Kd.C_drew ?_)))
                      (case aB => exact (by repeat (first | (with_reducible first | exact HB.out | apply below_alloc | apply pw_below_drewN | apply below_drew1 | refine below_set ?_ GE107.out) | exact HB.out)))
                      (case aF => exact (fun k_ hk => Kd.fresh' (Kd.R_lt (by (with_reducible repeat (first | apply Kd.R_alloc | apply Kd.R_drewN | apply Kd.R_drew)); exact HO116.out)) k_ hk))
                      (case aO => exact (by (with_reducible repeat (first | apply Kd.R_alloc | apply Kd.R_drewN | apply Kd.R_drew)); exact Kd.R_mono HO110.out (fun _ hk => hk.2)))
                      (case aS => exact (below_size (by repeat (first | (with_reducible first | exact HB.out | apply below_alloc | apply pw_below_drewN | apply below_drew1 | refine below_set ?_ GE107.out) | exact HB.out))))
                      (case aL => have := LMc5.out; omega)
                      intro v112 w17 ho hb hg hat
                      rw [← Ny111.out] at ho
                      have n0_ := Aside0.mk (Kd.S_after (ok := (fun k_ => some k_ ≠ (v115 : Value).ownBlock ∧ k_ ≠ gb107)) (by (with_reducible repeat (first | apply Kd.S_alloc | apply Kd.S_drewN | apply Kd.S_drew)); exact Kd.S_mono HO_2.out (fun _ hk => ⟨⟨hk.1.2, hk.1.1⟩, hk.2⟩)) hg hat)
                      have n1_ := Aside0.mk (blk_grown (g := gb107) (o := .cells #[.slice A106_0 ((rd_T44 l0 x7_1).f0).length c106_0, .slice A106_1 ((rd_T44 l0 x7_1).f1).length c106_1] 44 (0, 0)) (by (with_reducible repeat (first | refine blk_drewN ?_ _ | refine blk_drew ?_ | refine blk_alloc ?_ _)); exact BK107.out) hg (Kd.R_ne HO110.out BK107.out (by decide)))
                      have n2_ := Aside0.mk (Kd.R_after (ok := (fun _ => True)) (by (with_reducible repeat (first | apply Kd.R_alloc | apply Kd.R_drewN | apply Kd.R_drew)); exact HO116.out) hg hat)
                      have n3_ := Aside0.mk (hb)
                      have n4_ := Aside0.mk (ho)
                      clear HO_2
                      clear BK107
                      clear HO116
                      clear HB
                      clear HO110
                      have HO_2 := n0_
                      have BK107 := n1_
                      have HO116 := n2_
                      have HB := n3_
                      have HO113 := n4_
                      clear n0_ n1_ n2_ n3_ n4_
                      clear ho hb hg hat
                      refine hK.out _ _ ⟨(blk_cell BK107.out 0).trans rfl, (blk_cell BK107.out 1).trans rfl⟩ (fun hHeld => ?_)
                      clear hK K
                      refine norm_ (a' := ?_) ?_ ?_
                      rotate_left
                      · show Act.put _ (some 15) _ = _
                        simp only [Act.put, List.setIfInBounds_toArray, List.set_cons_zero, List.set_cons_succ, i64_w, i32_w]
                        rfl
                      exact norm_ (by simp only [putAll, Act.put, List.setIfInBounds_toArray, List.set_cons_zero, List.set_cons_succ]) (hCont (v109, v112, v115) _ ⟨hHeld, (by (with_reducible repeat (first | apply Kd.R_alloc | apply Kd.R_drewN | apply Kd.R_drew)); exact HO113.out), (by (with_reducible repeat (first | apply Kd.R_alloc | apply Kd.R_drewN | apply Kd.R_drew)); exact Kd.R_mono HO116.out (fun _ hk => hk.2)), (by (with_reducible repeat (first | apply Kd.S_alloc | apply Kd.S_drewN | apply Kd.S_drew)); exact Kd.S_mono HO_2.out (fun _ hk => ⟨hk.2, ⟨hk.1.1, hk.1.2⟩⟩)), (by (with_reducible repeat (first | refine blk_drewN ?_ _ | refine blk_drew ?_ | refine blk_alloc ?_ _)); exact BK107.out), (by repeat (first | (with_reducible first | exact HB.out | apply below_alloc | apply pw_below_drewN | apply below_drew1 | refine below_set ?_ GE107.out) | exact HB.out))⟩)
                  rintro ⟨v109, v112, v115⟩ w18 ⟨hS_, h0_, h1_, h2_, h3_, h4_⟩
                  have n0_ : Aside0 (Kd.R (Kd.int .u8) 5 w18 w.heap.size (fun k_ => some k_ ≠ (v115 : Value).ownBlock) v112 y111) := ⟨h0_⟩
                  have n1_ : Aside0 (Kd.R (Kd.int .u8) 5 w18 w.heap.size (fun k_ => some k_ ≠ (v112 : Value).ownBlock) v115 y114) := ⟨h1_⟩
                  have n2_ : Aside0 (Kd.S k44 44 w18 w.heap.size (fun k_ => some k_ ≠ (v112 : Value).ownBlock ∧ some k_ ≠ (v115 : Value).ownBlock ∧ k_ ≠ gb107) (.slice Ao10 x2_1.length co10) x2_1) := ⟨h2_⟩
                  have n3_ : Aside0 (w18.heap[gb107]? = some (.cells #[.slice A106_0 ((rd_T44 l0 x7_1).f0).length c106_0, .slice A106_1 ((rd_T44 l0 x7_1).f1).length c106_1] 44 (0, 0))) := ⟨h3_⟩
                  have n4_ : Aside0 (Below w.heap.size w w18) := ⟨h4_⟩
                  clear HO_2
                  clear BK107
                  clear HB
                  clear h0_ h1_ h2_ h3_ h4_
                  have HO113 := n0_
                  have HO116 := n1_
                  have HO_2 := n2_
                  have BK107 := n3_
                  have HB := n4_
                  clear n0_ n1_ n2_ n3_ n4_
                  have hHeld : w18.cell? ⟨gb107, 0, none⟩ = some (.slice A106_0 ((rd_T44 l0 x7_1).f0).length c106_0) ∧ w18.cell? ⟨gb107, 1, none⟩ = some (.slice A106_1 ((rd_T44 l0 x7_1).f1).length c106_1) := hS_
                  refine norm_ (a' := ?_) ?_ ?_
                  rotate_left
                  · simp only [putAll, Act.put, List.setIfInBounds_toArray, List.set_cons_zero, List.set_cons_succ]
                    rfl
                  refine one_ (i := 8) (N := some 19) #[true, true, true, true, true, true, true, true, true, false, false, false, false] rfl rfl (one_of HT_.out (by kernel_rfl)) (by decide) (fun K hK => ?_)
                  refine Kd.R_append_rows_step (Kd.int .u8) (w0 := w) w.heap.size (by rfl) (.tmp 16) (.tmp 18) 25 5 (.int .u8 0) 1 rfl Tryz.underlying25 info5 rfl (by decide) (by omega) v115 y114 ((rd_T44 l0 x7_1).f1) _ _ _ (fun k_ => some k_ ≠ (v112 : Value).ownBlock) (fun _ => False) rfl rfl ?aO ?aR (fun _ _ h => h) (fun _ h => h.elim) ?aF ?aB ?aS ?aL ?_
                  (case aR => repeat (first | exact (Kd.C_below HR106_1.out HB.out) | (with_reducible refine Kd.C_alloc ?_ _) | (with_reducible refine Kd.C_drewN ?_ _) | (with_reducible refine Kd.C_drew ?_)))
                  (case aB => exact (by repeat (first | (with_reducible first | exact HB.out | apply below_alloc | apply pw_below_drewN | apply below_drew1 | refine below_set ?_ GE107.out) | exact HB.out)))
                  (case aF => exact (fun k_ hk => Kd.fresh' (Kd.R_lt (by (with_reducible repeat (first | apply Kd.R_alloc | apply Kd.R_drewN | apply Kd.R_drew)); exact HO113.out)) k_ hk))
                  (case aO => exact (by (with_reducible repeat (first | apply Kd.R_alloc | apply Kd.R_drewN | apply Kd.R_drew)); exact HO116.out))
                  (case aS => exact (below_size (by repeat (first | (with_reducible first | exact HB.out | apply below_alloc | apply pw_below_drewN | apply below_drew1 | refine below_set ?_ GE107.out) | exact HB.out))))
                  (case aL => have := LMc6.out; omega)
                  intro v118 w19 ho hb hg hat
                  rw [← Ny117.out] at ho
                  have n0_ := Aside0.mk (Kd.S_after (ok := (fun k_ => some k_ ≠ (v112 : Value).ownBlock ∧ k_ ≠ gb107)) (by (with_reducible repeat (first | apply Kd.S_alloc | apply Kd.S_drewN | apply Kd.S_drew)); exact Kd.S_mono HO_2.out (fun _ hk => ⟨⟨hk.1, hk.2.2⟩, hk.2.1⟩)) hg hat)
                  have n1_ := Aside0.mk (blk_grown (g := gb107) (o := .cells #[.slice A106_0 ((rd_T44 l0 x7_1).f0).length c106_0, .slice A106_1 ((rd_T44 l0 x7_1).f1).length c106_1] 44 (0, 0)) (by (with_reducible repeat (first | refine blk_drewN ?_ _ | refine blk_drew ?_ | refine blk_alloc ?_ _)); exact BK107.out) hg (Kd.R_ne HO116.out BK107.out (by decide)))
                  have n2_ := Aside0.mk (Kd.R_after (ok := (fun _ => True)) (by (with_reducible repeat (first | apply Kd.R_alloc | apply Kd.R_drewN | apply Kd.R_drew)); exact Kd.R_mono HO113.out (fun _ hk => ⟨trivial, hk⟩)) hg hat)
                  have n3_ := Aside0.mk (hb)
                  have n4_ := Aside0.mk (ho)
                  clear HO_2
                  clear BK107
                  clear HO113
                  clear HB
                  clear HO116
                  have HO_2 := n0_
                  have BK107 := n1_
                  have HO113 := n2_
                  have HB := n3_
                  have HO119 := n4_
                  clear n0_ n1_ n2_ n3_ n4_
                  clear ho hb hg hat
                  obtain ⟨Ao20, co20, eo20⟩ := Kd.R_slice HO119.out
                  (first | subst eo20 | (injection eo20 with f1_ f2_ f3_; have f4_ := f1_.symm; have f5_ := f3_.symm; clear f1_ f2_ f3_; subst f4_; subst f5_))
                  obtain ⟨Ao21, co21, eo21⟩ := Kd.R_slice HO113.out
                  (first | subst eo21 | (injection eo21 with f1_ f2_ f3_; have f4_ := f1_.symm; have f5_ := f3_.symm; clear f1_ f2_ f3_; subst f4_; subst f5_))
                  refine hK.out _ _ ⟨(blk_cell BK107.out 0).trans rfl, (blk_cell BK107.out 1).trans rfl⟩ (fun hHeld => ?_)
                  clear hK K
                  refine norm_ (a' := ?_) ?_ ?_
                  rotate_left
                  · show Act.put _ (some 19) _ = _
                    simp only [Act.put, List.setIfInBounds_toArray, List.set_cons_zero, List.set_cons_succ, i64_w, i32_w]
                    rfl
                  refine pure_ (i := 9) (N := some 20) (v := ?_) (a' := ?_) #[true, true, true, true, true, true, true, true, true, true, false, false, false] rfl rfl (any_of HT_.out (by kernel_rfl)) (fun _ _ _ h => h) (Or.inl ⟨by rfl, ?_⟩) ?_ ?_
                  rotate_left
                  · intro w'
                    go_simp
                    with_reducible rfl
                  rotate_left
                  · simp only [Act.put, List.setIfInBounds_toArray, List.set_cons_zero, List.set_cons_succ, i64_w, i32_w]
                    rfl
                  refine one_ (i := 10) (N := some 21) #[true, true, true, true, true, true, true, true, true, true, true, false, false] rfl rfl (one_of HT_.out (by kernel_rfl)) (by decide) (fun K hK => ?_)
                  refine value_ (w1 := ?_) (v := ?_) (by rfl) rfl ?_ ?_
                  rotate_left 2
                  · go_simp
                    constructor
                    · rfl
                    · rfl
                  refine hK.out _ _ ⟨(blk_cell (blk_alloc BK107.out _) 0).trans rfl, (blk_cell (blk_alloc BK107.out _) 1).trans rfl⟩ (fun hHeld => ?_)
                  clear hK K
                  refine norm_ (a' := ?_) ?_ ?_
                  rotate_left
                  · show Act.put _ (some 21) _ = _
                    simp only [Act.put, List.setIfInBounds_toArray, List.set_cons_zero, List.set_cons_succ, i64_w, i32_w]
                    rfl
                  refine one_ (i := 11) (N := some 22) #[true, true, true, true, true, true, true, true, true, true, true, true, false] rfl rfl (one_of HT_.out (by kernel_rfl)) (by decide) (fun K hK => ?_)
                  refine Kd.S_append_step k44 (w0 := w) w.heap.size (by rfl) (.tmp 11) (.tmp 21) 38 44 (.agg #[(.slice none 0 0), (.slice none 0 0)]) 48 rfl Tryz.underlying38 info44 rfl (by decide) (by omega) (.slice Ao10 x2_1.length co10) x2_1 (⟨y111, y117⟩ : S44) [.slice Ao21 y111.length co21, .slice Ao20 y117.length co20] (fun k_ => k_ ≠ gb107) (fun k_ => some k_ = (.slice Ao21 y111.length co21 : Value).ownBlock ∨ some k_ = (.slice Ao20 y117.length co20 : Value).ownBlock) rfl rfl ?aP (fun k_ hk_ => hk_.elim (fun h_ => ((Kd.R_mono (ok' := fun k_ => ((fun k_ => k_ ≠ gb107)) k_ ∧ some k_ ≠ (.slice Ao10 x2_1.length co10 : Value).ownBlock) (Kd.R_types (Kd.R_apart' (HO113.out) (Kd.S_typed HO_2.out) (by decide)) BK107.out (by decide)) (fun k_ hk => ⟨hk.2, hk.1.2⟩))).1 k_ h_.symm) (fun h_ => ((Kd.R_mono (ok' := fun k_ => ((fun k_ => k_ ≠ gb107)) k_ ∧ some k_ ≠ (.slice Ao10 x2_1.length co10 : Value).ownBlock) (Kd.R_types (Kd.R_apart' (HO119.out) (Kd.S_typed HO_2.out) (by decide)) BK107.out (by decide)) (fun k_ hk => ⟨hk.2, hk.1.2⟩))).1 k_ h_.symm)) ?aF ?aO ?aB ?aS ?aL ?_
                  (case aP => exact k44_mkM _ _ _ (⟨y111, y117⟩ : S44) (Kd.R_mono (Kd.R_tight rfl (Kd.R_mono (ok' := fun k_ => ((fun k_ => k_ ≠ gb107)) k_ ∧ some k_ ≠ (.slice Ao10 x2_1.length co10 : Value).ownBlock) (Kd.R_types (Kd.R_apart' (HO113.out) (Kd.S_typed HO_2.out) (by decide)) BK107.out (by decide)) (fun k_ hk => ⟨hk.2, hk.1.2⟩))) (fun _ h_ => Or.inl h_)) (Kd.R_mono (Kd.R_tight rfl (Kd.R_mono (ok' := fun k_ => ((fun k_ => k_ ≠ gb107)) k_ ∧ some k_ ≠ (.slice Ao10 x2_1.length co10 : Value).ownBlock) (Kd.R_types (Kd.R_apart' (HO119.out) (Kd.S_typed HO_2.out) (by decide)) BK107.out (by decide)) (fun k_ hk => ⟨hk.2, hk.1.2⟩))) (fun _ h_ => Or.inr (h_))))
                  (case aB => exact (by repeat (first | (with_reducible first | exact HB.out | apply below_alloc | apply pw_below_drewN | apply below_drew1 | refine below_set ?_ GE107.out) | exact HB.out)))
                  (case aF => exact (fun k_ hk => Kd.freshB (g := gb107) (o := .cells #[.slice A106_0 ((rd_T44 l0 x7_1).f0).length c106_0, .slice A106_1 ((rd_T44 l0 x7_1).f1).length c106_1] 44 (0, 0)) (by (with_reducible repeat (first | refine blk_drewN ?_ _ | refine blk_drew ?_ | refine blk_alloc ?_ _)); exact BK107.out) k_ hk))
                  (case aO => exact (by (with_reducible repeat (first | apply Kd.S_alloc | apply Kd.S_drewN | apply Kd.S_drew)); exact Kd.S_mono HO_2.out (fun k_ hk => ⟨hk.1.2, fun e_ => e_.elim (fun h_ => hk.1.1 h_) (fun h_ => hk.2 h_)⟩)))
                  (case aS => exact (below_size (by repeat (first | (with_reducible first | exact HB.out | apply below_alloc | apply pw_below_drewN | apply below_drew1 | refine below_set ?_ GE107.out) | exact HB.out))))
                  (case aL => have := LMc7.out; omega)
                  intro v121 w22 ho hb hg hat
                  rw [← Ny120.out] at ho
                  have n0_ := Aside0.mk (blk_grown (g := gb107) (o := .cells #[.slice A106_0 ((rd_T44 l0 x7_1).f0).length c106_0, .slice A106_1 ((rd_T44 l0 x7_1).f1).length c106_1] 44 (0, 0)) (by (with_reducible repeat (first | refine blk_drewN ?_ _ | refine blk_drew ?_ | refine blk_alloc ?_ _)); exact BK107.out) hg (Kd.S_away HO_2.out (fun _ hk => hk.1.2)))
                  have n1_ := Aside0.mk (hb)
                  have n2_ := Aside0.mk (ho)
                  clear BK107
                  clear HB
                  clear HO_2
                  clear HO113
                  clear HO119
                  have BK107 := n0_
                  have HB := n1_
                  have HO122 := n2_
                  clear n0_ n1_ n2_
                  clear ho hb hg hat
                  refine hK.out _ _ ⟨(blk_cell BK107.out 0).trans rfl, (blk_cell BK107.out 1).trans rfl⟩ (fun hHeld => ?_)
                  clear hK K
                  refine norm_ (a' := ?_) ?_ ?_
                  rotate_left
                  · show Act.put _ (some 22) _ = _
                    simp only [Act.put, List.setIfInBounds_toArray, List.set_cons_zero, List.set_cons_succ, i64_w, i32_w]
                    rfl
                  refine pure_ (i := 12) (N := some 2) (v := ?_) (a' := ?_) #[true, true, true, true, true, true, true, true, true, true, true, true, true] rfl rfl (any_of HT_.out (by kernel_rfl)) (fun _ _ _ h => h) (Or.inl ⟨by rfl, ?_⟩) ?_ ?_
                  rotate_left
                  · intro w'
                    go_simp
                    with_reducible rfl
                  rotate_left
                  · simp only [Act.put, List.setIfInBounds_toArray, List.set_cons_zero, List.set_cons_succ, i64_w, i32_w]
                    rfl
                  refine done_ (done_of HT_.out (by kernel_rfl)) ?_
                  try go_wp2
                  go_roundg k1
                  case measure => have := HK1.out; omega
                  case rel => exact ⟨(y120), (wrap64 (x7_1 + 1)), (by first | rfl | (simp; done) | (simp [*]; done)), H', ⟨by have := HK1.out; omega⟩, ⟨by (with_reducible repeat (first | apply Kd.S_alloc | apply Kd.S_drewN | apply Kd.S_drew)); exact Kd.S_mono HO122.out (fun _ hk => trivial)⟩, ⟨by repeat (first | (with_reducible first | exact HB.out | apply below_alloc | apply pw_below_drewN | apply below_drew1 | refine below_set ?_ GE107.out) | exact HB.out)⟩⟩
                · rw [if_neg c7] at H
                  exact absurd H (by simp)
              · rw [if_neg c6] at H
                exact absurd H (by simp)
            · rw [if_neg c5] at H
              exact absurd H (by simp)
          · rw [if_neg c4] at H
            exact absurd H (by simp)
        · rw [if_neg c3] at H
          exact absurd H (by simp)
      · rw [if_neg c2] at H
        have c2b0 : decide (x7_1 < (l0.length : Int)) = false := decide_eq_false c2
        clear c2
        obtain rfl := Option.some.inj H
        go_wp2
        go_ret
        exact ⟨_, by first | rfl | (simp [errW_none, errW_some] <;> rfl) | (simp [*, errW_none, errW_some] <;> rfl), by (with_reducible repeat (first | apply Kd.S_alloc | apply Kd.S_drewN | apply Kd.S_drew)); exact HO_2.out, by repeat (first | (with_reducible first | exact HB.out | apply below_alloc | apply pw_below_drewN | apply below_drew1) | exact HB.out)⟩

end Go.Proofs.YtdkkkikcigjlhaaGreatDoor.PFnMemMap
