/- What binary.Uvarint does, as printed (the part of the printed text that builds). -/
import Derived.Test.YtddjenmengipkaaPFnBatchLoadsx0
namespace Go.Proofs.Ytddjenmengipkaa.PFnBatchLoads
open Go.RowKit Go.Proofs.YtddjenmengipkaaW.PrintWords Go.Proofs.YtddjenmengipkaaW.PrintLast Go.Proofs.YtddjenmengipkaaW.PrintMore
attribute [local go_sem] max2_int min2_int max_two min_two max_three min_three max_four min_four   -- for this text's walks alone
set_option linter.unusedVariables false
set_option linter.unusedSimpArgs false

/-! ### binary_Uvarint: function 40 -/
def binary_Uvarint.l0 : Nat → Int → Int → List Int → Int → Int → Option (Int × Int)
  | 0, _, _, _, _, _ => none
  | k + 1, x4, x5, x8, x9, x10 => if x10 < x9 then (if 0 ≤ x10 then (if x10 < (x8.length : Int) then (if x10 = 10 then (some (0, wrap64 (-(wrap64 (x10 + 1))))) else (if (rd x8 x10) < 128 then (if x10 = 9 then (if (rd x8 x10) > 1 then (some (0, wrap64 (-(wrap64 (x10 + 1))))) else (if 0 ≤ x5 then (some (Go.bits .or .u64 x4 (shl .u64 (IntKind.u64.wrap (rd x8 x10)) x5), wrap64 (x10 + 1))) else (none))) else (if 0 ≤ x5 then (some (Go.bits .or .u64 x4 (shl .u64 (IntKind.u64.wrap (rd x8 x10)) x5), wrap64 (x10 + 1))) else (none))) else (if 0 ≤ x5 then (binary_Uvarint.l0 k (Go.bits .or .u64 x4 (shl .u64 (IntKind.u64.wrap (Go.bits .and .u8 (rd x8 x10) 127)) x5)) (IntKind.u64.wrap (x5 + 7)) x8 x9 (wrap64 (x10 + 1))) else (none)))) else (none)) else (none)) else (some (0, 0))
def binary_Uvarint.f (k : Nat) (l0 : List Int) : Option (Int × Int) := binary_Uvarint.l0 k 0 0 l0 (l0.length : Int) 0
theorem binary_Uvarint.mono_l : ∀ k, (∀ y0 y1 y2 y3 y4, LeO (binary_Uvarint.l0 k y0 y1 y2 y3 y4) (binary_Uvarint.l0 (k + 1) y0 y1 y2 y3 y4))
  | 0 => fun _ _ _ _ _ r h => by simp [binary_Uvarint.l0] at h
  | k + 1 => by
    have ih0 := binary_Uvarint.mono_l k
    · intro y0 y1 y2 y3 y4
      unfold binary_Uvarint.l0
      repeat' first
      | (with_reducible exact ih0 _ _ _ _ _)
      | (with_reducible exact LeO.refl _)
      | (with_reducible exact LeO.none _)
      | (with_reducible refine LeO.ite ?_ ?_)
      | (with_reducible refine LeO.bind ?_ (fun _ => ?_))
      | exact ih0 _ _ _ _ _
      | exact LeO.none _
      | refine LeO.ite ?_ ?_
      | refine LeO.bind ?_ (fun _ => ?_)
theorem binary_Uvarint.mono : ∀ a0 k, LeO (binary_Uvarint.f k a0) (binary_Uvarint.f (k + 1) a0) := by
  intro a0 k
  have ih0 := binary_Uvarint.mono_l k
  unfold binary_Uvarint.f
  repeat' first
      | (with_reducible exact ih0 _ _ _ _ _)
      | (with_reducible exact LeO.refl _)
      | (with_reducible exact LeO.none _)
      | (with_reducible refine LeO.ite ?_ ?_)
      | (with_reducible refine LeO.bind ?_ (fun _ => ?_))
      | exact ih0 _ _ _ _ _
      | exact LeO.none _
      | refine LeO.ite ?_ ?_
      | refine LeO.bind ?_ (fun _ => ?_)
set_option maxHeartbeats 8000000 in
set_option maxRecDepth 100000 in
theorem binary_Uvarint.calls (k : Nat) (A0 : Option Addr) (c0 : Nat) (l0 : List Int) (r1 : Int) (r2 : Int) (w : World) (hr0 : Kd.C (Kd.int .u8) w A0 l0.length l0) (hc0 : l0.length ≤ c0) (h : binary_Uvarint.f k l0 = some (r1, r2)) :
    Calls Try.prog 40 #[.slice A0 l0.length c0] w fun e w' => e = .returned (.tuple #[.int .u64 r1, .int .i64 r2]) ∧ Drawn0 w w' := by
  have HR0 := Aside0.mk hr0
  have HC0 := Aside0.mk hc0
  clear hr0 hc0
  have H : (binary_Uvarint.l0 k 0 0 l0 (l0.length : Int) 0) = some (r1, r2) := h
  clear h
  have H' := Aside0.mk H
  clear H
  go_enter Try.func40, Try.ntmps40
  go_wp2
  go_loopg [4, 5, 10] k (fun kq v4 v5 v10 w' => ∃ (x4_1 : Int) (x5_1 : Int) (x10_1 : Int), v4 = .int .u64 x4_1 ∧ v5 = .int .u64 x5_1 ∧ v10 = .int .i64 x10_1 ∧ Aside0 (binary_Uvarint.l0 kq x4_1 x5_1 l0 (l0.length : Int) x10_1 = some (r1, r2)) ∧ Aside0 (kq ≤ k) ∧ Drawn0 w w')
  case atStart => exact ⟨(0), (0), (0), (by first | rfl | (simp; done) | (simp [*]; done)), (by first | rfl | (simp; done) | (simp [*]; done)), (by first | rfl | (simp; done) | (simp [*]; done)), H', ⟨Nat.le_refl _⟩, by repeat (first | exact Drawn0.refl _ | apply Drawn0.step)⟩
  case round =>
    clear H'
    obtain ⟨x4_1, x5_1, x10_1, rfl, rfl, rfl, HA, HK1, ⟨m1, rfl⟩⟩ := hrel
    cases gk with
    | zero => exact absurd HA.out (by simp [binary_Uvarint.l0])
    | succ k1 =>
      have H := HA.out
      clear HA
      simp only [binary_Uvarint.l0] at H
      by_cases c2 : x10_1 < (l0.length : Int)
      · rw [if_pos c2] at H
        have c2b0 : decide (x10_1 < (l0.length : Int)) = true := decide_eq_true c2
        clear c2
        by_cases c3 : 0 ≤ x10_1
        · rw [if_pos c3] at H
          have c3b0 : decide (0 ≤ x10_1) = true := decide_eq_true c3
          clear c3
          by_cases c4 : x10_1 < (l0.length : Int)
          · rw [if_pos c4] at H
            have c4b0 : decide (x10_1 < (l0.length : Int)) = true := decide_eq_true c4
            clear c4
            by_cases c5 : x10_1 = 10
            · rw [if_pos c5] at H
              have c5b0 : (x10_1 == 10) = true := beq_iff_eq.mpr c5
              have c5b1 : (x10_1 != 10) = false := bne_eq_false_iff_eq.mpr c5
              clear c5
              simp only [Option.some.injEq, Prod.mk.injEq] at H
              obtain ⟨rfl, rfl⟩ := H
              have p124 : 0 ≤ (x10_1 : Int) := of_decide_eq_true (by first | (with_reducible assumption) | assumption)
              have q124 : x10_1 < (l0.length : Int) := of_decide_eq_true (by first | (with_reducible assumption) | assumption)
              obtain ⟨ad124, e124, hx124_0⟩ := Kd.at_int HR0.out x10_1 p124 q124
              cases e124
              replace p124 := eq_true p124
              replace q124 := eq_true q124
              go_wp2
              go_ret2
              exact ⟨by first | rfl | (simp; done) | (simp [*]; done), by repeat (first | exact Drawn0.refl _ | apply Drawn0.step)⟩
            · rw [if_neg c5] at H
              have c5b0 : (x10_1 == 10) = false := beq_eq_false_iff_ne.mpr c5
              have c5b1 : (x10_1 != 10) = true := bne_iff_ne.mpr c5
              by_cases c6 : (rd l0 x10_1) < 128
              · rw [if_pos c6] at H
                have c6b0 : decide ((rd l0 x10_1) < 128) = true := decide_eq_true c6
                clear c6
                by_cases c7 : x10_1 = 9
                · rw [if_pos c7] at H
                  have c7b0 : (x10_1 == 9) = true := beq_iff_eq.mpr c7
                  have c7b1 : (x10_1 != 9) = false := bne_eq_false_iff_eq.mpr c7
                  clear c7
                  by_cases c8 : (rd l0 x10_1) > 1
                  · rw [if_pos c8] at H
                    have c8b0 : decide (1 < (rd l0 x10_1)) = true := decide_eq_true c8
                    clear c8
                    simp only [Option.some.injEq, Prod.mk.injEq] at H
                    obtain ⟨rfl, rfl⟩ := H
                    have p124 : 0 ≤ (x10_1 : Int) := of_decide_eq_true (by first | (with_reducible assumption) | assumption)
                    have q124 : x10_1 < (l0.length : Int) := of_decide_eq_true (by first | (with_reducible assumption) | assumption)
                    obtain ⟨ad124, e124, hx124_0⟩ := Kd.at_int HR0.out x10_1 p124 q124
                    cases e124
                    replace p124 := eq_true p124
                    replace q124 := eq_true q124
                    go_wp2
                    go_ret2
                    exact ⟨by first | rfl | (simp; done) | (simp [*]; done), by repeat (first | exact Drawn0.refl _ | apply Drawn0.step)⟩
                  · rw [if_neg c8] at H
                    have c8b0 : decide (1 < (rd l0 x10_1)) = false := decide_eq_false c8
                    clear c8
                    by_cases c9 : 0 ≤ x5_1
                    · rw [if_pos c9] at H
                      have c9b0 := eq_true c9
                      have c9b1 : decide (0 ≤ x5_1) = true := decide_eq_true c9
                      clear c9
                      obtain ⟨ji10, hji10⟩ : ∃ j_ : Int, (shl .u64 (IntKind.u64.wrap (rd l0 x10_1)) x5_1) = j_ := ⟨_, rfl⟩
                      replace H : (some (Go.bits .or .u64 x4_1 (ji10), wrap64 (x10_1 + 1))) = some (r1, r2) := by first | (rw [hji10] at H; exact H) | (simp only [hji10] at H ⊢; exact H)
                      have hji10_ : (IntKind.u64.wrap ((IntKind.u64.wrap (rd l0 x10_1)) * 2 ^ min x5_1.toNat 64)) = ji10 := hji10
                      have hji10z : x5_1 ≤ 64 → (IntKind.u64.wrap ((IntKind.u64.wrap (rd l0 x10_1)) * 2 ^ x5_1.toNat)) = ji10 := shl_small hji10
                      simp only [Option.some.injEq, Prod.mk.injEq] at H
                      obtain ⟨rfl, rfl⟩ := H
                      have p124 : 0 ≤ (x10_1 : Int) := of_decide_eq_true (by first | (with_reducible assumption) | assumption)
                      have q124 : x10_1 < (l0.length : Int) := of_decide_eq_true (by first | (with_reducible assumption) | assumption)
                      obtain ⟨ad124, e124, hx124_0⟩ := Kd.at_int HR0.out x10_1 p124 q124
                      cases e124
                      replace p124 := eq_true p124
                      replace q124 := eq_true q124
                      go_wp2
                      go_ret2
                      exact ⟨by first | rfl | (simp; done) | (simp only [← hji10] <;> (first | rfl | simp)) | (simp [*]; done), by repeat (first | exact Drawn0.refl _ | apply Drawn0.step)⟩
                    · rw [if_neg c9] at H
                      exact absurd H (by simp)
                · rw [if_neg c7] at H
                  have c7b0 : (x10_1 == 9) = false := beq_eq_false_iff_ne.mpr c7
                  have c7b1 : (x10_1 != 9) = true := bne_iff_ne.mpr c7
                  by_cases c11 : 0 ≤ x5_1
                  · rw [if_pos c11] at H
                    have c11b0 := eq_true c11
                    have c11b1 : decide (0 ≤ x5_1) = true := decide_eq_true c11
                    clear c11
                    obtain ⟨ji12, hji12⟩ : ∃ j_ : Int, (shl .u64 (IntKind.u64.wrap (rd l0 x10_1)) x5_1) = j_ := ⟨_, rfl⟩
                    replace H : (some (Go.bits .or .u64 x4_1 (ji12), wrap64 (x10_1 + 1))) = some (r1, r2) := by first | (rw [hji12] at H; exact H) | (simp only [hji12] at H ⊢; exact H)
                    have hji12_ : (IntKind.u64.wrap ((IntKind.u64.wrap (rd l0 x10_1)) * 2 ^ min x5_1.toNat 64)) = ji12 := hji12
                    have hji12z : x5_1 ≤ 64 → (IntKind.u64.wrap ((IntKind.u64.wrap (rd l0 x10_1)) * 2 ^ x5_1.toNat)) = ji12 := shl_small hji12
                    simp only [Option.some.injEq, Prod.mk.injEq] at H
                    obtain ⟨rfl, rfl⟩ := H
                    have p124 : 0 ≤ (x10_1 : Int) := of_decide_eq_true (by first | (with_reducible assumption) | assumption)
                    have q124 : x10_1 < (l0.length : Int) := of_decide_eq_true (by first | (with_reducible assumption) | assumption)
                    obtain ⟨ad124, e124, hx124_0⟩ := Kd.at_int HR0.out x10_1 p124 q124
                    cases e124
                    replace p124 := eq_true p124
                    replace q124 := eq_true q124
                    go_wp2
                    go_ret2
                    exact ⟨by first | rfl | (simp; done) | (simp only [← hji12] <;> (first | rfl | simp)) | (simp [*]; done), by repeat (first | exact Drawn0.refl _ | apply Drawn0.step)⟩
                  · rw [if_neg c11] at H
                    exact absurd H (by simp)
              · rw [if_neg c6] at H
                have c6b0 : decide ((rd l0 x10_1) < 128) = false := decide_eq_false c6
                clear c6
                by_cases c13 : 0 ≤ x5_1
                · rw [if_pos c13] at H
                  have c13b0 := eq_true c13
                  have c13b1 : decide (0 ≤ x5_1) = true := decide_eq_true c13
                  clear c13
                  obtain ⟨ji14, hji14⟩ : ∃ j_ : Int, (shl .u64 (IntKind.u64.wrap (Go.bits .and .u8 (rd l0 x10_1) 127)) x5_1) = j_ := ⟨_, rfl⟩
                  replace H : (binary_Uvarint.l0 k1 (Go.bits .or .u64 x4_1 (ji14)) (IntKind.u64.wrap (x5_1 + 7)) l0 (l0.length : Int) (wrap64 (x10_1 + 1))) = some (r1, r2) := by first | (rw [hji14] at H; exact H) | (simp only [hji14] at H ⊢; exact H)
                  have hji14_ : (IntKind.u64.wrap ((IntKind.u64.wrap (Go.bits .and .u8 (rd l0 x10_1) 127)) * 2 ^ min x5_1.toNat 64)) = ji14 := hji14
                  have hji14z : x5_1 ≤ 64 → (IntKind.u64.wrap ((IntKind.u64.wrap (Go.bits .and .u8 (rd l0 x10_1) 127)) * 2 ^ x5_1.toNat)) = ji14 := shl_small hji14
                  have H' := Aside0.mk H
                  clear H
                  have p124 : 0 ≤ (x10_1 : Int) := of_decide_eq_true (by first | (with_reducible assumption) | assumption)
                  have q124 : x10_1 < (l0.length : Int) := of_decide_eq_true (by first | (with_reducible assumption) | assumption)
                  obtain ⟨ad124, e124, hx124_0⟩ := Kd.at_int HR0.out x10_1 p124 q124
                  cases e124
                  replace p124 := eq_true p124
                  replace q124 := eq_true q124
                  go_wp2
                  go_roundg k1
                  case measure => have := HK1.out; omega
                  case rel => exact ⟨(Go.bits .or .u64 x4_1 (ji14)), (IntKind.u64.wrap (x5_1 + 7)), (wrap64 (x10_1 + 1)), (by first | rfl | (simp; done) | (simp only [← hji14] <;> (first | rfl | simp)) | (simp [*]; done)), (by first | rfl | (simp; done) | (simp [*]; done)), (by first | rfl | (simp; done) | (simp [*]; done)), H', ⟨by have := HK1.out; omega⟩, by repeat (first | exact Drawn0.refl _ | apply Drawn0.step)⟩
                · rw [if_neg c13] at H
                  exact absurd H (by simp)
          · rw [if_neg c4] at H
            exact absurd H (by simp)
        · rw [if_neg c3] at H
          exact absurd H (by simp)
      · rw [if_neg c2] at H
        have c2b0 : decide (x10_1 < (l0.length : Int)) = false := decide_eq_false c2
        clear c2
        simp only [Option.some.injEq, Prod.mk.injEq] at H
        obtain ⟨rfl, rfl⟩ := H
        go_wp2
        go_ret2
        exact ⟨by first | rfl | (simp; done) | (simp [*]; done), by repeat (first | exact Drawn0.refl _ | apply Drawn0.step)⟩

end Go.Proofs.Ytddjenmengipkaa.PFnBatchLoads
