/- Walks of functions of the laws and of the reference: a cut of what print.sh prints for FnMemWalk. -/
import Derived.Test.YtdkkkikcigjlhaaGreatDoorMb01
import Derived.Test.YtdkkkikcigjlhaaGreatDoorMb02
import Derived.Test.YtdkkkikcigjlhaaGreatDoorMb03
namespace Go.Proofs.YtdkkkikcigjlhaaGreatDoor.PFnMemMap
open Go.RowKit Go.Proofs.YtdkkkikcigjlhaaGreatDoorW.PrintWords Go.Proofs.YtdkkkikcigjlhaaGreatDoorW.PrintLast Go.Proofs.YtdkkkikcigjlhaaGreatDoorW.PrintMore
set_option linter.unusedVariables false
set_option linter.unusedSimpArgs false
attribute [local go_sem] max2_int min2_int max_two min_two max_three min_three max_four min_four   -- for this text's walks alone

/-! ### spec_CursorRange: function 32 -/
def spec_CursorRange.l0 : Nat → Int → List (S36) → List Int → List Int → Bool → Bool → List (S36) → Int → Option ((List (S36)))
  | 0, _, _, _, _, _, _, _, _ => none
  | k + 1, x0, x1, x2, x3, x4, x5, x13, x14 => if x14 < (x1.length : Int) then (if x4 = true then (if 0 ≤ x14 then ((spec_OrderCompare.f k x0 ((rd_T36 x1 x14).f0) x2).bind fun t278 => (if t278 < 0 then (spec_CursorRange.l0 k x0 x1 x2 x3 x4 x5 x13 (wrap64 (x14 + 1))) else (if x5 = true then ((spec_OrderCompare.f k x0 ((rd_T36 x1 x14).f0) x3).bind fun t280 => (if t280 ≥ 0 then (spec_CursorRange.l0 k x0 x1 x2 x3 x4 x5 x13 (wrap64 (x14 + 1))) else (if x13.length < 2932031007402 then (spec_CursorRange.l0 k x0 x1 x2 x3 x4 x5 (x13 ++ [(⟨(rd_T36 x1 x14).f0, (rd_T36 x1 x14).f1⟩ : S36)]) (wrap64 (x14 + 1))) else (none)))) else (if x13.length < 2932031007402 then (spec_CursorRange.l0 k x0 x1 x2 x3 x4 x5 (x13 ++ [(⟨(rd_T36 x1 x14).f0, (rd_T36 x1 x14).f1⟩ : S36)]) (wrap64 (x14 + 1))) else (none))))) else (none)) else (if x5 = true then (if 0 ≤ x14 then ((spec_OrderCompare.f k x0 ((rd_T36 x1 x14).f0) x3).bind fun t290 => (if t290 ≥ 0 then (spec_CursorRange.l0 k x0 x1 x2 x3 x4 x5 x13 (wrap64 (x14 + 1))) else (if x13.length < 2932031007402 then (spec_CursorRange.l0 k x0 x1 x2 x3 x4 x5 (x13 ++ [(⟨(rd_T36 x1 x14).f0, (rd_T36 x1 x14).f1⟩ : S36)]) (wrap64 (x14 + 1))) else (none)))) else (none)) else (if 0 ≤ x14 then (if x13.length < 2932031007402 then (spec_CursorRange.l0 k x0 x1 x2 x3 x4 x5 (x13 ++ [(⟨(rd_T36 x1 x14).f0, (rd_T36 x1 x14).f1⟩ : S36)]) (wrap64 (x14 + 1))) else (none)) else (none)))) else (some x13)
def spec_CursorRange.f (k : Nat) (a0 : Int) (l1 : List (S36)) (l2 : List Int) (l3 : List Int) (a4 : Bool) (a5 : Bool) : Option ((List (S36))) := spec_CursorRange.l0 k a0 l1 l2 l3 a4 a5 ([] : List (S36)) 0
set_option maxHeartbeats 8000000 in
set_option maxRecDepth 100000 in
theorem spec_CursorRange.calls (k : Nat) (a0 : Int) (P1_ : Nat → Prop) (A1 : Option Addr) (c1 : Nat) (l1 : List (S36)) (A2 : Option Addr) (c2 : Nat) (l2 : List Int) (A3 : Option Addr) (c3 : Nat) (l3 : List Int) (a4 : Bool) (a5 : Bool) (r : List (S36)) (w : World) (hs1 : Kd.V k36 36 w w.heap.size (fun k_ => P1_ k_) (.slice A1 l1.length c1) l1) (hr2 : Kd.C (Kd.int .u8) w A2 l2.length l2) (hc2 : l2.length ≤ c2) (hr3 : Kd.C (Kd.int .u8) w A3 l3.length l3) (hc3 : l3.length ≤ c3) (h : spec_CursorRange.f k a0 l1 l2 l3 a4 a5 = some r) :
    Calls Tryz.prog 32 #[.int .i64 a0, .slice A1 l1.length c1, .slice A2 l2.length c2, .slice A3 l3.length c3, .bool a4, .bool a5] w fun e w' => ∃ v0_ : Value, e = .returned (v0_) ∧ Kd.N k36 36 w' w.heap.size (fun k_ => (P1_ k_ ∨ w.heap.size ≤ k_)) v0_ r ∧ Below w.heap.size w w' := by
  have hu36 := Tryz.underlying36
  have HO1 := Aside0.mk (show Kd.V k36 36 w w.heap.size (fun k_ => (P1_ k_ ∨ w.heap.size ≤ k_)) (.slice A1 l1.length c1) l1 from Kd.V_mono hs1 (fun k_ hk => .inl hk))
  have HR2 := Aside0.mk hr2
  have HC2 := Aside0.mk hc2
  clear hr2 hc2
  have HR3 := Aside0.mk hr3
  have HC3 := Aside0.mk hc3
  clear hr3 hc3
  have HB := Aside0.mk (Below.refl w.heap.size w)
  have H : (spec_CursorRange.l0 k a0 l1 l2 l3 a4 a5 ([] : List (S36)) 0) = some r := h
  clear h
  have H' := Aside0.mk H
  clear H
  go_enter Tryz.func32, Tryz.ntmps32
  go_wp2
  go_loopg [13, 14] k (fun kq v13 v14 w' => ∃ (x13_1 : List (S36)) (x14_1 : Int), v14 = .int .i64 x14_1 ∧ Aside0 (spec_CursorRange.l0 kq a0 l1 l2 l3 a4 a5 x13_1 x14_1 = some r) ∧ Aside0 (kq ≤ k) ∧ Aside0 (Kd.V k36 36 w' w.heap.size (fun k_ => (P1_ k_ ∨ w.heap.size ≤ k_) ∧ some k_ ≠ (v13 : Value).ownBlock) (.slice A1 l1.length c1) l1) ∧ Aside0 (Kd.N k36 36 w' w.heap.size (fun k_ => (P1_ k_ ∨ w.heap.size ≤ k_)) v13 x13_1) ∧ Aside0 (Below w.heap.size w w'))
  case atStart => exact ⟨(([] : List (S36))), (0), (by first | rfl | (simp; done) | (simp [*]; done)), H', ⟨Nat.le_refl _⟩, ⟨by (with_reducible repeat (first | apply Kd.V_alloc | apply Kd.V_drewN | apply Kd.V_drew)); exact Kd.V_mono HO1.out (fun _ hk => ⟨hk, (by simp [Value.ownBlock])⟩)⟩, ⟨by first | exact Kd.S_nil _ _ _ _ _ | exact Kd.N_nil _ _ _ _ _ | exact Kd.V_nil _ _ _ _ _ | exact Kd.Q_nil _ _ _ _ _ | exact Kd.R_nil _ _ _ _ _⟩, ⟨by repeat (first | (with_reducible first | exact HB.out | apply below_alloc | apply pw_below_drewN | apply below_drew1) | exact HB.out)⟩⟩
  case round =>
    clear H'
    try clear c1
    try clear c2
    try clear p2
    try clear c3
    obtain ⟨x13_1, x14_1, rfl, HA, HK1, HO_1, HO_13, HB⟩ := hrel
    cases gk with
    | zero => exact absurd HA.out (by simp [spec_CursorRange.l0])
    | succ k1 =>
      have H := HA.out
      clear HA
      simp only [spec_CursorRange.l0] at H
      by_cases c7 : x14_1 < (l1.length : Int)
      · rw [if_pos c7] at H
        have c7b0 : decide (x14_1 < (l1.length : Int)) = true := decide_eq_true c7
        clear c7
        by_cases c8 : a4 = true
        · subst c8
          have H1 : (if 0 ≤ x14_1 then ((spec_OrderCompare.f k1 a0 ((rd_T36 l1 x14_1).f0) l2).bind fun t278 => (if t278 < 0 then (spec_CursorRange.l0 k1 a0 l1 l2 l3 true a5 x13_1 (wrap64 (x14_1 + 1))) else (if a5 = true then ((spec_OrderCompare.f k1 a0 ((rd_T36 l1 x14_1).f0) l3).bind fun t280 => (if t280 ≥ 0 then (spec_CursorRange.l0 k1 a0 l1 l2 l3 true a5 x13_1 (wrap64 (x14_1 + 1))) else (if x13_1.length < 2932031007402 then (spec_CursorRange.l0 k1 a0 l1 l2 l3 true a5 (x13_1 ++ [(⟨(rd_T36 l1 x14_1).f0, (rd_T36 l1 x14_1).f1⟩ : S36)]) (wrap64 (x14_1 + 1))) else (none)))) else (if x13_1.length < 2932031007402 then (spec_CursorRange.l0 k1 a0 l1 l2 l3 true a5 (x13_1 ++ [(⟨(rd_T36 l1 x14_1).f0, (rd_T36 l1 x14_1).f1⟩ : S36)]) (wrap64 (x14_1 + 1))) else (none))))) else (none)) = some r := by rw [if_pos rfl] at H; exact H
          clear H
          have H := H1
          clear H1
          by_cases c9 : 0 ≤ x14_1
          · rw [if_pos c9] at H
            have c9b0 : decide (0 ≤ x14_1) = true := decide_eq_true c9
            clear c9
            replace H := Option.bind_eq_some_iff.mp H
            obtain ⟨t278, A100, H⟩ := H
            replace H : (if t278 < 0 then (spec_CursorRange.l0 k1 a0 l1 l2 l3 true a5 x13_1 (wrap64 (x14_1 + 1))) else (if a5 = true then ((spec_OrderCompare.f k1 a0 ((rd_T36 l1 x14_1).f0) l3).bind fun t280 => (if t280 ≥ 0 then (spec_CursorRange.l0 k1 a0 l1 l2 l3 true a5 x13_1 (wrap64 (x14_1 + 1))) else (if x13_1.length < 2932031007402 then (spec_CursorRange.l0 k1 a0 l1 l2 l3 true a5 (x13_1 ++ [(⟨(rd_T36 l1 x14_1).f0, (rd_T36 l1 x14_1).f1⟩ : S36)]) (wrap64 (x14_1 + 1))) else (none)))) else (if x13_1.length < 2932031007402 then (spec_CursorRange.l0 k1 a0 l1 l2 l3 true a5 (x13_1 ++ [(⟨(rd_T36 l1 x14_1).f0, (rd_T36 l1 x14_1).f1⟩ : S36)]) (wrap64 (x14_1 + 1))) else (none)))) = some r := H
            have A10 := Aside0.mk A100
            clear A100
            by_cases c11 : t278 < 0
            · rw [if_pos c11] at H
              have c11b0 : decide (t278 < 0) = true := decide_eq_true c11
              clear c11
              have H' := Aside0.mk H
              clear H
              have p277 : 0 ≤ (x14_1 : Int) := of_decide_eq_true (by first | (with_reducible assumption) | assumption)
              have q277 : x14_1 < (l1.length : Int) := of_decide_eq_true (by first | (with_reducible assumption) | assumption)
              obtain ⟨ad277, A277_0, c277_0, A277_1, c277_1, e277, hx277_0, hx277_1, hl277_0, hi277_0, hl277_1, hi277_1⟩ := at_T36 (Kd.V_reads' HO_1.out).2.2 x14_1 p277 q277
              cases e277
              obtain ⟨ce277, hce277, hMe277, hcc277⟩ := Kd.V_get HO_1.out z36 x14_1 p277 (by first | exact q277 | exact of_decide_eq_true (by first | (with_reducible assumption) | assumption) | (have e_ := (Kd.V_reads' HO_1.out).1; omega))
              obtain ⟨ua277_0, uc277_0, ua277_1, uc277_1, rfl, ul277_0, ge277_0, ul277_1, ge277_1⟩ := k36_openF hMe277
              have hv277_0 := hcc277 0 _ rfl
              rw [Nat.add_zero] at hv277_0
              replace hv277_0 := Option.some.inj (hv277_0.symm.trans hx277_0)
              injection hv277_0 with hva_ hvn_ hvc_
              rw [hva_] at ge277_0
              rw [hvc_] at ul277_0
              have HL277_0 := Aside0.mk (show Kd.V (Kd.int .u8) 5 _ w.heap.size _ _ ((rd_T36 l1 x14_1).f0) from Kd.V_mk ul277_0 ge277_0)
              clear hva_ hvn_ hvc_ ge277_0 ul277_0
              have hv277_1 := hcc277 1 _ rfl
              rw [add_field _ _ 1 (by omega)] at hv277_1
              replace hv277_1 := Option.some.inj (hv277_1.symm.trans hx277_1)
              injection hv277_1 with hva_ hvn_ hvc_
              rw [hva_] at ge277_1
              rw [hvc_] at ul277_1
              have HL277_1 := Aside0.mk (show Kd.V (Kd.int .u8) 5 _ w.heap.size _ _ ((rd_T36 l1 x14_1).f1) from Kd.V_mk ul277_1 ge277_1)
              clear hva_ hvn_ hvc_ ge277_1 ul277_1
              clear hcc277 hce277
              have HR277_0 := Aside0.mk hi277_0
              have HC277_0 := Aside0.mk hl277_0
              clear hi277_0 hl277_0
              have HR277_1 := Aside0.mk hi277_1
              have HC277_1 := Aside0.mk hl277_1
              clear hi277_1 hl277_1
              replace p277 := eq_true p277
              replace q277 := eq_true q277
              go_wp2_with (first | (go_at_call 30; (with_reducible refine (spec_OrderCompare.calls k1 a0 _ _ ((rd_T36 l1 x14_1).f0) _ _ l2 t278 _ ?side1 ?side2 ?side3 ?side4 A10.out).mono ?_); (case side1 => repeat (first | exact (by repeat (first | (with_reducible exact HR277_0.out) | (with_reducible refine Kd.C_alloc ?_ _) | (with_reducible refine Kd.C_drewN ?_ _) | (with_reducible refine Kd.C_drew ?_) | exact HR277_0.out)) | (with_reducible refine Kd.C_alloc ?_ _) | (with_reducible refine Kd.C_drewN ?_ _) | (with_reducible refine Kd.C_drew ?_))); (case side2 => exact HC277_0.out); (case side3 => repeat (first | exact (Kd.C_below HR2.out HB.out) | (with_reducible refine Kd.C_alloc ?_ _) | (with_reducible refine Kd.C_drewN ?_ _) | (with_reducible refine Kd.C_drew ?_))); (case side4 => exact HC2.out); rintro e w' ⟨rfl, ⟨nd, rfl⟩⟩))
              go_roundg k1
              case measure => have := HK1.out; omega
              case rel => exact ⟨(x13_1), (wrap64 (x14_1 + 1)), (by first | rfl | (simp; done) | (simp [*]; done)), H', ⟨by have := HK1.out; omega⟩, ⟨by (with_reducible repeat (first | apply Kd.V_alloc | apply Kd.V_drewN | apply Kd.V_drew)); exact HO_1.out⟩, ⟨by (with_reducible repeat (first | apply Kd.N_alloc | apply Kd.N_drewN | apply Kd.N_drew)); exact HO_13.out⟩, ⟨by repeat (first | (with_reducible first | exact HB.out | apply below_alloc | apply pw_below_drewN | apply below_drew1) | exact HB.out)⟩⟩
            · rw [if_neg c11] at H
              have c11b0 : decide (t278 < 0) = false := decide_eq_false c11
              clear c11
              by_cases c12 : a5 = true
              · subst c12
                have H1 : ((spec_OrderCompare.f k1 a0 ((rd_T36 l1 x14_1).f0) l3).bind fun t280 => (if t280 ≥ 0 then (spec_CursorRange.l0 k1 a0 l1 l2 l3 true true x13_1 (wrap64 (x14_1 + 1))) else (if x13_1.length < 2932031007402 then (spec_CursorRange.l0 k1 a0 l1 l2 l3 true true (x13_1 ++ [(⟨(rd_T36 l1 x14_1).f0, (rd_T36 l1 x14_1).f1⟩ : S36)]) (wrap64 (x14_1 + 1))) else (none)))) = some r := by rw [if_pos rfl] at H; exact H
                clear H
                have H := H1
                clear H1
                replace H := Option.bind_eq_some_iff.mp H
                obtain ⟨t280, A130, H⟩ := H
                replace H : (if t280 ≥ 0 then (spec_CursorRange.l0 k1 a0 l1 l2 l3 true true x13_1 (wrap64 (x14_1 + 1))) else (if x13_1.length < 2932031007402 then (spec_CursorRange.l0 k1 a0 l1 l2 l3 true true (x13_1 ++ [(⟨(rd_T36 l1 x14_1).f0, (rd_T36 l1 x14_1).f1⟩ : S36)]) (wrap64 (x14_1 + 1))) else (none))) = some r := H
                have A13 := Aside0.mk A130
                clear A130
                by_cases c14 : t280 ≥ 0
                · rw [if_pos c14] at H
                  have c14b0 : decide (0 ≤ t280) = true := decide_eq_true c14
                  clear c14
                  have H' := Aside0.mk H
                  clear H
                  have p277 : 0 ≤ (x14_1 : Int) := of_decide_eq_true (by first | (with_reducible assumption) | assumption)
                  have q277 : x14_1 < (l1.length : Int) := of_decide_eq_true (by first | (with_reducible assumption) | assumption)
                  obtain ⟨ad277, A277_0, c277_0, A277_1, c277_1, e277, hx277_0, hx277_1, hl277_0, hi277_0, hl277_1, hi277_1⟩ := at_T36 (Kd.V_reads' HO_1.out).2.2 x14_1 p277 q277
                  cases e277
                  obtain ⟨ce277, hce277, hMe277, hcc277⟩ := Kd.V_get HO_1.out z36 x14_1 p277 (by first | exact q277 | exact of_decide_eq_true (by first | (with_reducible assumption) | assumption) | (have e_ := (Kd.V_reads' HO_1.out).1; omega))
                  obtain ⟨ua277_0, uc277_0, ua277_1, uc277_1, rfl, ul277_0, ge277_0, ul277_1, ge277_1⟩ := k36_openF hMe277
                  have hv277_0 := hcc277 0 _ rfl
                  rw [Nat.add_zero] at hv277_0
                  replace hv277_0 := Option.some.inj (hv277_0.symm.trans hx277_0)
                  injection hv277_0 with hva_ hvn_ hvc_
                  rw [hva_] at ge277_0
                  rw [hvc_] at ul277_0
                  have HL277_0 := Aside0.mk (show Kd.V (Kd.int .u8) 5 _ w.heap.size _ _ ((rd_T36 l1 x14_1).f0) from Kd.V_mk ul277_0 ge277_0)
                  clear hva_ hvn_ hvc_ ge277_0 ul277_0
                  have hv277_1 := hcc277 1 _ rfl
                  rw [add_field _ _ 1 (by omega)] at hv277_1
                  replace hv277_1 := Option.some.inj (hv277_1.symm.trans hx277_1)
                  injection hv277_1 with hva_ hvn_ hvc_
                  rw [hva_] at ge277_1
                  rw [hvc_] at ul277_1
                  have HL277_1 := Aside0.mk (show Kd.V (Kd.int .u8) 5 _ w.heap.size _ _ ((rd_T36 l1 x14_1).f1) from Kd.V_mk ul277_1 ge277_1)
                  clear hva_ hvn_ hvc_ ge277_1 ul277_1
                  clear hcc277 hce277
                  have HR277_0 := Aside0.mk hi277_0
                  have HC277_0 := Aside0.mk hl277_0
                  clear hi277_0 hl277_0
                  have HR277_1 := Aside0.mk hi277_1
                  have HC277_1 := Aside0.mk hl277_1
                  clear hi277_1 hl277_1
                  replace p277 := eq_true p277
                  replace q277 := eq_true q277
                  go_wp2_with (first | (go_at_call 30; (with_reducible refine (spec_OrderCompare.calls k1 a0 _ _ ((rd_T36 l1 x14_1).f0) _ _ l2 t278 _ ?side1 ?side2 ?side3 ?side4 A10.out).mono ?_); (case side1 => repeat (first | exact (by repeat (first | (with_reducible exact HR277_0.out) | (with_reducible refine Kd.C_alloc ?_ _) | (with_reducible refine Kd.C_drewN ?_ _) | (with_reducible refine Kd.C_drew ?_) | exact HR277_0.out)) | (with_reducible refine Kd.C_alloc ?_ _) | (with_reducible refine Kd.C_drewN ?_ _) | (with_reducible refine Kd.C_drew ?_))); (case side2 => exact HC277_0.out); (case side3 => repeat (first | exact (Kd.C_below HR2.out HB.out) | (with_reducible refine Kd.C_alloc ?_ _) | (with_reducible refine Kd.C_drewN ?_ _) | (with_reducible refine Kd.C_drew ?_))); (case side4 => exact HC2.out); rintro e w' ⟨rfl, ⟨nd, rfl⟩⟩; have p279 : 0 ≤ (x14_1 : Int) := of_decide_eq_true (by first | (with_reducible assumption) | assumption); have q279 : x14_1 < (l1.length : Int) := of_decide_eq_true (by first | (with_reducible assumption) | assumption); obtain ⟨ad279, A279_0, c279_0, A279_1, c279_1, e279, hx279_0, hx279_1, hl279_0, hi279_0, hl279_1, hi279_1⟩ := at_T36 (Kd.V_reads' HO_1.out).2.2 x14_1 p279 q279; obtain rfl : ad277 = ad279 := (by injection e279); obtain ⟨ce279, hce279, hMe279, hcc279⟩ := Kd.V_get HO_1.out z36 x14_1 p279 (by first | exact q279 | exact of_decide_eq_true (by first | (with_reducible assumption) | assumption) | (have e_ := (Kd.V_reads' HO_1.out).1; omega)); obtain ⟨ua279_0, uc279_0, ua279_1, uc279_1, rfl, ul279_0, ge279_0, ul279_1, ge279_1⟩ := k36_openF hMe279; have hv279_0 := hcc279 0 _ rfl; rw [Nat.add_zero] at hv279_0; replace hv279_0 := Option.some.inj (hv279_0.symm.trans hx279_0); injection hv279_0 with hva_ hvn_ hvc_; rw [hva_] at ge279_0; rw [hvc_] at ul279_0; have HL279_0 := Aside0.mk (show Kd.V (Kd.int .u8) 5 _ w.heap.size _ _ ((rd_T36 l1 x14_1).f0) from Kd.V_mk ul279_0 ge279_0); clear hva_ hvn_ hvc_ ge279_0 ul279_0; have hv279_1 := hcc279 1 _ rfl; rw [add_field _ _ 1 (by omega)] at hv279_1; replace hv279_1 := Option.some.inj (hv279_1.symm.trans hx279_1); injection hv279_1 with hva_ hvn_ hvc_; rw [hva_] at ge279_1; rw [hvc_] at ul279_1; have HL279_1 := Aside0.mk (show Kd.V (Kd.int .u8) 5 _ w.heap.size _ _ ((rd_T36 l1 x14_1).f1) from Kd.V_mk ul279_1 ge279_1); clear hva_ hvn_ hvc_ ge279_1 ul279_1; clear hcc279 hce279; have HR279_0 := Aside0.mk hi279_0; have HC279_0 := Aside0.mk hl279_0; clear hi279_0 hl279_0; have HR279_1 := Aside0.mk hi279_1; have HC279_1 := Aside0.mk hl279_1; clear hi279_1 hl279_1; replace p279 := eq_true p279; replace q279 := eq_true q279; have ea_ := Option.some.inj (hx277_0.symm.trans hx279_0); injection ea_ with ea_ en_ ec_; subst ea_; subst ec_; clear en_; have ea_ := Option.some.inj (hx277_1.symm.trans hx279_1); injection ea_ with ea_ en_ ec_; subst ea_; subst ec_; clear en_) | (go_at_call 30; (with_reducible refine (spec_OrderCompare.calls k1 a0 _ _ ((rd_T36 l1 x14_1).f0) _ _ l3 t280 _ ?side1 ?side2 ?side3 ?side4 A13.out).mono ?_); (case side1 => repeat (first | exact (by repeat (first | (with_reducible exact HR279_0.out) | (with_reducible refine Kd.C_alloc ?_ _) | (with_reducible refine Kd.C_drewN ?_ _) | (with_reducible refine Kd.C_drew ?_) | exact HR279_0.out)) | (with_reducible refine Kd.C_alloc ?_ _) | (with_reducible refine Kd.C_drewN ?_ _) | (with_reducible refine Kd.C_drew ?_))); (case side2 => exact HC279_0.out); (case side3 => repeat (first | exact (Kd.C_below HR3.out (by repeat (first | (with_reducible first | exact HB.out | apply below_alloc | apply pw_below_drewN | apply below_drew1) | exact HB.out))) | (with_reducible refine Kd.C_alloc ?_ _) | (with_reducible refine Kd.C_drewN ?_ _) | (with_reducible refine Kd.C_drew ?_))); (case side4 => exact HC3.out); rintro e w' ⟨rfl, ⟨nd, rfl⟩⟩))
                  go_roundg k1
                  case measure => have := HK1.out; omega
                  case rel => exact ⟨(x13_1), (wrap64 (x14_1 + 1)), (by first | rfl | (simp; done) | (simp [*]; done)), H', ⟨by have := HK1.out; omega⟩, ⟨by (with_reducible repeat (first | apply Kd.V_alloc | apply Kd.V_drewN | apply Kd.V_drew)); exact HO_1.out⟩, ⟨by (with_reducible repeat (first | apply Kd.N_alloc | apply Kd.N_drewN | apply Kd.N_drew)); exact HO_13.out⟩, ⟨by repeat (first | (with_reducible first | exact HB.out | apply below_alloc | apply pw_below_drewN | apply below_drew1) | exact HB.out)⟩⟩
                · rw [if_neg c14] at H
                  have c14b0 : decide (0 ≤ t280) = false := decide_eq_false c14
                  clear c14
                  by_cases c15 : x13_1.length < 2932031007402
                  · rw [if_pos c15] at H
                    have LMc15 := Aside0.mk c15
                    clear c15
                    obtain ⟨y282, hy282⟩ : ∃ y_ : List (S36), y_ = (x13_1 ++ [(⟨(rd_T36 l1 x14_1).f0, (rd_T36 l1 x14_1).f1⟩ : S36)]) := ⟨_, rfl⟩
                    replace H : (spec_CursorRange.l0 k1 a0 l1 l2 l3 true true y282 (wrap64 (x14_1 + 1))) = some r := by first | (rw [hy282]; with_reducible exact H) | (have H2_ := (Option.bind_some _ _).symm.trans H; rw [hy282]; with_reducible exact H2_) | (have H2_ := (Option.bind_some _ _).symm.trans H; with_reducible exact H2_) | with_reducible exact H | (rw [hy282]; exact H) | exact H
                    have Ny282 := Aside0.mk hy282
                    clear hy282
                    have H' := Aside0.mk H
                    clear H
                    have p277 : 0 ≤ (x14_1 : Int) := of_decide_eq_true (by first | (with_reducible assumption) | assumption)
                    have q277 : x14_1 < (l1.length : Int) := of_decide_eq_true (by first | (with_reducible assumption) | assumption)
                    obtain ⟨ad277, A277_0, c277_0, A277_1, c277_1, e277, hx277_0, hx277_1, hl277_0, hi277_0, hl277_1, hi277_1⟩ := at_T36 (Kd.V_reads' HO_1.out).2.2 x14_1 p277 q277
                    cases e277
                    obtain ⟨ce277, hce277, hMe277, hcc277⟩ := Kd.V_get HO_1.out z36 x14_1 p277 (by first | exact q277 | exact of_decide_eq_true (by first | (with_reducible assumption) | assumption) | (have e_ := (Kd.V_reads' HO_1.out).1; omega))
                    obtain ⟨ua277_0, uc277_0, ua277_1, uc277_1, rfl, ul277_0, ge277_0, ul277_1, ge277_1⟩ := k36_openF hMe277
                    have hv277_0 := hcc277 0 _ rfl
                    rw [Nat.add_zero] at hv277_0
                    replace hv277_0 := Option.some.inj (hv277_0.symm.trans hx277_0)
                    injection hv277_0 with hva_ hvn_ hvc_
                    rw [hva_] at ge277_0
                    rw [hvc_] at ul277_0
                    have HL277_0 := Aside0.mk (show Kd.V (Kd.int .u8) 5 _ w.heap.size _ _ ((rd_T36 l1 x14_1).f0) from Kd.V_mk ul277_0 ge277_0)
                    clear hva_ hvn_ hvc_ ge277_0 ul277_0
                    have hv277_1 := hcc277 1 _ rfl
                    rw [add_field _ _ 1 (by omega)] at hv277_1
                    replace hv277_1 := Option.some.inj (hv277_1.symm.trans hx277_1)
                    injection hv277_1 with hva_ hvn_ hvc_
                    rw [hva_] at ge277_1
                    rw [hvc_] at ul277_1
                    have HL277_1 := Aside0.mk (show Kd.V (Kd.int .u8) 5 _ w.heap.size _ _ ((rd_T36 l1 x14_1).f1) from Kd.V_mk ul277_1 ge277_1)
                    clear hva_ hvn_ hvc_ ge277_1 ul277_1
                    clear hcc277 hce277
                    have HR277_0 := Aside0.mk hi277_0
                    have HC277_0 := Aside0.mk hl277_0
                    clear hi277_0 hl277_0
                    have HR277_1 := Aside0.mk hi277_1
                    have HC277_1 := Aside0.mk hl277_1
                    clear hi277_1 hl277_1
                    replace p277 := eq_true p277
                    replace q277 := eq_true q277
                    go_wp2_with (first | (go_at_call 30; (with_reducible refine (spec_OrderCompare.calls k1 a0 _ _ ((rd_T36 l1 x14_1).f0) _ _ l2 t278 _ ?side1 ?side2 ?side3 ?side4 A10.out).mono ?_); (case side1 => repeat (first | exact (by repeat (first | (with_reducible exact HR277_0.out) | (with_reducible refine Kd.C_alloc ?_ _) | (with_reducible refine Kd.C_drewN ?_ _) | (with_reducible refine Kd.C_drew ?_) | exact HR277_0.out)) | (with_reducible refine Kd.C_alloc ?_ _) | (with_reducible refine Kd.C_drewN ?_ _) | (with_reducible refine Kd.C_drew ?_))); (case side2 => exact HC277_0.out); (case side3 => repeat (first | exact (Kd.C_below HR2.out HB.out) | (with_reducible refine Kd.C_alloc ?_ _) | (with_reducible refine Kd.C_drewN ?_ _) | (with_reducible refine Kd.C_drew ?_))); (case side4 => exact HC2.out); rintro e w' ⟨rfl, ⟨nd, rfl⟩⟩; have p279 : 0 ≤ (x14_1 : Int) := of_decide_eq_true (by first | (with_reducible assumption) | assumption); have q279 : x14_1 < (l1.length : Int) := of_decide_eq_true (by first | (with_reducible assumption) | assumption); obtain ⟨ad279, A279_0, c279_0, A279_1, c279_1, e279, hx279_0, hx279_1, hl279_0, hi279_0, hl279_1, hi279_1⟩ := at_T36 (Kd.V_reads' HO_1.out).2.2 x14_1 p279 q279; obtain rfl : ad277 = ad279 := (by injection e279); obtain ⟨ce279, hce279, hMe279, hcc279⟩ := Kd.V_get HO_1.out z36 x14_1 p279 (by first | exact q279 | exact of_decide_eq_true (by first | (with_reducible assumption) | assumption) | (have e_ := (Kd.V_reads' HO_1.out).1; omega)); obtain ⟨ua279_0, uc279_0, ua279_1, uc279_1, rfl, ul279_0, ge279_0, ul279_1, ge279_1⟩ := k36_openF hMe279; have hv279_0 := hcc279 0 _ rfl; rw [Nat.add_zero] at hv279_0; replace hv279_0 := Option.some.inj (hv279_0.symm.trans hx279_0); injection hv279_0 with hva_ hvn_ hvc_; rw [hva_] at ge279_0; rw [hvc_] at ul279_0; have HL279_0 := Aside0.mk (show Kd.V (Kd.int .u8) 5 _ w.heap.size _ _ ((rd_T36 l1 x14_1).f0) from Kd.V_mk ul279_0 ge279_0); clear hva_ hvn_ hvc_ ge279_0 ul279_0; have hv279_1 := hcc279 1 _ rfl; rw [add_field _ _ 1 (by omega)] at hv279_1; replace hv279_1 := Option.some.inj (hv279_1.symm.trans hx279_1); injection hv279_1 with hva_ hvn_ hvc_; rw [hva_] at ge279_1; rw [hvc_] at ul279_1; have HL279_1 := Aside0.mk (show Kd.V (Kd.int .u8) 5 _ w.heap.size _ _ ((rd_T36 l1 x14_1).f1) from Kd.V_mk ul279_1 ge279_1); clear hva_ hvn_ hvc_ ge279_1 ul279_1; clear hcc279 hce279; have HR279_0 := Aside0.mk hi279_0; have HC279_0 := Aside0.mk hl279_0; clear hi279_0 hl279_0; have HR279_1 := Aside0.mk hi279_1; have HC279_1 := Aside0.mk hl279_1; clear hi279_1 hl279_1; replace p279 := eq_true p279; replace q279 := eq_true q279; have ea_ := Option.some.inj (hx277_0.symm.trans hx279_0); injection ea_ with ea_ en_ ec_; subst ea_; subst ec_; clear en_; have ea_ := Option.some.inj (hx277_1.symm.trans hx279_1); injection ea_ with ea_ en_ ec_; subst ea_; subst ec_; clear en_) | (go_at_call 30; (with_reducible refine (spec_OrderCompare.calls k1 a0 _ _ ((rd_T36 l1 x14_1).f0) _ _ l3 t280 _ ?side1 ?side2 ?side3 ?side4 A13.out).mono ?_); (case side1 => repeat (first | exact (by repeat (first | (with_reducible exact HR279_0.out) | (with_reducible refine Kd.C_alloc ?_ _) | (with_reducible refine Kd.C_drewN ?_ _) | (with_reducible refine Kd.C_drew ?_) | exact HR279_0.out)) | (with_reducible refine Kd.C_alloc ?_ _) | (with_reducible refine Kd.C_drewN ?_ _) | (with_reducible refine Kd.C_drew ?_))); (case side2 => exact HC279_0.out); (case side3 => repeat (first | exact (Kd.C_below HR3.out (by repeat (first | (with_reducible first | exact HB.out | apply below_alloc | apply pw_below_drewN | apply below_drew1) | exact HB.out))) | (with_reducible refine Kd.C_alloc ?_ _) | (with_reducible refine Kd.C_drewN ?_ _) | (with_reducible refine Kd.C_drew ?_))); (case side4 => exact HC3.out); rintro e w' ⟨rfl, ⟨nd, rfl⟩⟩; have p281 : 0 ≤ (x14_1 : Int) := of_decide_eq_true (by first | (with_reducible assumption) | assumption); have q281 : x14_1 < (l1.length : Int) := of_decide_eq_true (by first | (with_reducible assumption) | assumption); obtain ⟨ad281, A281_0, c281_0, A281_1, c281_1, e281, hx281_0, hx281_1, hl281_0, hi281_0, hl281_1, hi281_1⟩ := at_T36 (Kd.V_reads' HO_1.out).2.2 x14_1 p281 q281; obtain rfl : ad277 = ad281 := (by injection e281); obtain ⟨ce281, hce281, hMe281, hcc281⟩ := Kd.V_get HO_1.out z36 x14_1 p281 (by first | exact q281 | exact of_decide_eq_true (by first | (with_reducible assumption) | assumption) | (have e_ := (Kd.V_reads' HO_1.out).1; omega)); obtain ⟨ua281_0, uc281_0, ua281_1, uc281_1, rfl, ul281_0, ge281_0, ul281_1, ge281_1⟩ := k36_openF hMe281; have hv281_0 := hcc281 0 _ rfl; rw [Nat.add_zero] at hv281_0; replace hv281_0 := Option.some.inj (hv281_0.symm.trans hx281_0); injection hv281_0 with hva_ hvn_ hvc_; rw [hva_] at ge281_0; rw [hvc_] at ul281_0; have HL281_0 := Aside0.mk (show Kd.V (Kd.int .u8) 5 _ w.heap.size _ _ ((rd_T36 l1 x14_1).f0) from Kd.V_mk ul281_0 ge281_0); clear hva_ hvn_ hvc_ ge281_0 ul281_0; have hv281_1 := hcc281 1 _ rfl; rw [add_field _ _ 1 (by omega)] at hv281_1; replace hv281_1 := Option.some.inj (hv281_1.symm.trans hx281_1); injection hv281_1 with hva_ hvn_ hvc_; rw [hva_] at ge281_1; rw [hvc_] at ul281_1; have HL281_1 := Aside0.mk (show Kd.V (Kd.int .u8) 5 _ w.heap.size _ _ ((rd_T36 l1 x14_1).f1) from Kd.V_mk ul281_1 ge281_1); clear hva_ hvn_ hvc_ ge281_1 ul281_1; clear hcc281 hce281; have HR281_0 := Aside0.mk hi281_0; have HC281_0 := Aside0.mk hl281_0; clear hi281_0 hl281_0; have HR281_1 := Aside0.mk hi281_1; have HC281_1 := Aside0.mk hl281_1; clear hi281_1 hl281_1; replace p281 := eq_true p281; replace q281 := eq_true q281; have ea_ := Option.some.inj (hx277_0.symm.trans hx281_0); injection ea_ with ea_ en_ ec_; subst ea_; subst ec_; clear en_; have ea_ := Option.some.inj (hx277_1.symm.trans hx281_1); injection ea_ with ea_ en_ ec_; subst ea_; subst ec_; clear en_) | ((with_reducible refine gate_builtin (b := .append) (xs := #[.tmp 47, .tmp 52]) rfl ?_); at_builtin; refine Kd.N_append k36 (w0 := w) w.heap.size rfl (.tmp 47) (.tmp 52) 31 36 (.agg #[(.slice none 0 0), (.slice none 0 0)]) 48 rfl Tryz.underlying31 info36 rfl (by decide) (by omega) u13 x13_1 (⟨(rd_T36 l1 x14_1).f0, (rd_T36 l1 x14_1).f1⟩ : S36) [.slice A277_0 ((rd_T36 l1 x14_1).f0).length c277_0, .slice A277_1 ((rd_T36 l1 x14_1).f1).length c277_1] (fun k_ => (P1_ k_ ∨ w.heap.size ≤ k_)) (fun k_ => ((fun k_ => (P1_ k_ ∨ w.heap.size ≤ k_))) k_ ∧ some k_ ≠ (u13 : Value).ownBlock) rfl rfl ?aP (fun _ hk => hk) ?aF ?aO ?aB ?aS ?aL ?_; (case aP => exact (k36_mkF _ _ (⟨(rd_T36 l1 x14_1).f0, (rd_T36 l1 x14_1).f1⟩ : S36) (Kd.V_reads' (Kd.V_mono (ok' := (fun k_ => ((fun k_ => (P1_ k_ ∨ w.heap.size ≤ k_))) k_ ∧ some k_ ≠ (u13 : Value).ownBlock)) (HL281_0.out) (fun k_ hk => ⟨hk.1, hk.2⟩))).2.1 (Kd.V_F (Kd.V_mono (ok' := (fun k_ => ((fun k_ => (P1_ k_ ∨ w.heap.size ≤ k_))) k_ ∧ some k_ ≠ (u13 : Value).ownBlock)) (HL281_0.out) (fun k_ hk => ⟨hk.1, hk.2⟩))) (Kd.V_reads' (Kd.V_mono (ok' := (fun k_ => ((fun k_ => (P1_ k_ ∨ w.heap.size ≤ k_))) k_ ∧ some k_ ≠ (u13 : Value).ownBlock)) (HL281_1.out) (fun k_ hk => ⟨hk.1, hk.2⟩))).2.1 (Kd.V_F (Kd.V_mono (ok' := (fun k_ => ((fun k_ => (P1_ k_ ∨ w.heap.size ≤ k_))) k_ ∧ some k_ ≠ (u13 : Value).ownBlock)) (HL281_1.out) (fun k_ hk => ⟨hk.1, hk.2⟩))))); (case aB => exact (by repeat (first | (with_reducible first | exact HB.out | apply below_alloc | apply pw_below_drewN | apply below_drew1) | exact HB.out))); (case aF => exact (fun k_ hk => (.inr (Nat.le_trans (below_size (by repeat (first | (with_reducible first | exact HB.out | apply below_alloc | apply pw_below_drewN | apply below_drew1) | exact HB.out))) hk)))); (case aO => exact (by (with_reducible repeat (first | apply Kd.N_alloc | apply Kd.N_drewN | apply Kd.N_drew)); exact HO_13.out)); (case aS => exact (below_size (by repeat (first | (with_reducible first | exact HB.out | apply below_alloc | apply pw_below_drewN | apply below_drew1) | exact HB.out)))); (case aL => have := LMc15.out; omega); intro v283 w16 ho hb hg hat; rw [← Ny282.out] at ho; have n0_ := Aside0.mk (Kd.V_afterv (ok := (fun k_ => (P1_ k_ ∨ w.heap.size ≤ k_))) (by (with_reducible repeat (first | apply Kd.V_alloc | apply Kd.V_drewN | apply Kd.V_drew)); exact HO_1.out) hg hat); have n1_ := Aside0.mk (Kd.V_afterv (ok := (fun k_ => (P1_ k_ ∨ w.heap.size ≤ k_))) (by (with_reducible repeat (first | apply Kd.V_alloc | apply Kd.V_drewN | apply Kd.V_drew)); exact HL277_0.out) hg hat); have n2_ := Aside0.mk (Kd.V_afterv (ok := (fun k_ => (P1_ k_ ∨ w.heap.size ≤ k_))) (by (with_reducible repeat (first | apply Kd.V_alloc | apply Kd.V_drewN | apply Kd.V_drew)); exact HL277_1.out) hg hat); have n3_ := Aside0.mk (Kd.V_afterv (ok := (fun k_ => (P1_ k_ ∨ w.heap.size ≤ k_))) (by (with_reducible repeat (first | apply Kd.V_alloc | apply Kd.V_drewN | apply Kd.V_drew)); exact HL279_0.out) hg hat); have n4_ := Aside0.mk (Kd.V_afterv (ok := (fun k_ => (P1_ k_ ∨ w.heap.size ≤ k_))) (by (with_reducible repeat (first | apply Kd.V_alloc | apply Kd.V_drewN | apply Kd.V_drew)); exact HL279_1.out) hg hat); have n5_ := Aside0.mk (Kd.V_afterv (ok := (fun k_ => (P1_ k_ ∨ w.heap.size ≤ k_))) (by (with_reducible repeat (first | apply Kd.V_alloc | apply Kd.V_drewN | apply Kd.V_drew)); exact HL281_0.out) hg hat); have n6_ := Aside0.mk (Kd.V_afterv (ok := (fun k_ => (P1_ k_ ∨ w.heap.size ≤ k_))) (by (with_reducible repeat (first | apply Kd.V_alloc | apply Kd.V_drewN | apply Kd.V_drew)); exact HL281_1.out) hg hat); have n7_ := Aside0.mk (hb); have n8_ := Aside0.mk (ho); clear HO_1; clear HL277_0; clear HL277_1; clear HL279_0; clear HL279_1; clear HL281_0; clear HL281_1; clear HB; clear HO_13; have HO_1 := n0_; have HL277_0 := n1_; have HL277_1 := n2_; have HL279_0 := n3_; have HL279_1 := n4_; have HL281_0 := n5_; have HL281_1 := n6_; have HB := n7_; have HO284 := n8_; clear n0_ n1_ n2_ n3_ n4_ n5_ n6_ n7_ n8_; clear ho hb hg hat))
                    go_roundg k1
                    case measure => have := HK1.out; omega
                    case rel => exact ⟨(y282), (wrap64 (x14_1 + 1)), (by first | rfl | (simp; done) | (simp [*]; done)), H', ⟨by have := HK1.out; omega⟩, ⟨by (with_reducible repeat (first | apply Kd.V_alloc | apply Kd.V_drewN | apply Kd.V_drew)); exact HO_1.out⟩, ⟨by (with_reducible repeat (first | apply Kd.N_alloc | apply Kd.N_drewN | apply Kd.N_drew)); exact HO284.out⟩, ⟨by repeat (first | (with_reducible first | exact HB.out | apply below_alloc | apply pw_below_drewN | apply below_drew1) | exact HB.out)⟩⟩
                  · rw [if_neg c15] at H
                    exact absurd H (by simp)
              · replace c12 := Bool.eq_false_iff.mpr c12
                subst c12
                have H1 : (if x13_1.length < 2932031007402 then (spec_CursorRange.l0 k1 a0 l1 l2 l3 true false (x13_1 ++ [(⟨(rd_T36 l1 x14_1).f0, (rd_T36 l1 x14_1).f1⟩ : S36)]) (wrap64 (x14_1 + 1))) else (none)) = some r := by rw [if_neg (show ¬ (false = true) by decide)] at H; exact H
                clear H
                have H := H1
                clear H1
                by_cases c17 : x13_1.length < 2932031007402
                · rw [if_pos c17] at H
                  have LMc17 := Aside0.mk c17
                  clear c17
                  obtain ⟨y286, hy286⟩ : ∃ y_ : List (S36), y_ = (x13_1 ++ [(⟨(rd_T36 l1 x14_1).f0, (rd_T36 l1 x14_1).f1⟩ : S36)]) := ⟨_, rfl⟩
                  replace H : (spec_CursorRange.l0 k1 a0 l1 l2 l3 true false y286 (wrap64 (x14_1 + 1))) = some r := by first | (rw [hy286]; with_reducible exact H) | (have H2_ := (Option.bind_some _ _).symm.trans H; rw [hy286]; with_reducible exact H2_) | (have H2_ := (Option.bind_some _ _).symm.trans H; with_reducible exact H2_) | with_reducible exact H | (rw [hy286]; exact H) | exact H
                  have Ny286 := Aside0.mk hy286
                  clear hy286
                  have H' := Aside0.mk H
                  clear H
                  have p277 : 0 ≤ (x14_1 : Int) := of_decide_eq_true (by first | (with_reducible assumption) | assumption)
                  have q277 : x14_1 < (l1.length : Int) := of_decide_eq_true (by first | (with_reducible assumption) | assumption)
                  obtain ⟨ad277, A277_0, c277_0, A277_1, c277_1, e277, hx277_0, hx277_1, hl277_0, hi277_0, hl277_1, hi277_1⟩ := at_T36 (Kd.V_reads' HO_1.out).2.2 x14_1 p277 q277
                  cases e277
                  obtain ⟨ce277, hce277, hMe277, hcc277⟩ := Kd.V_get HO_1.out z36 x14_1 p277 (by first | exact q277 | exact of_decide_eq_true (by first | (with_reducible assumption) | assumption) | (have e_ := (Kd.V_reads' HO_1.out).1; omega))
                  obtain ⟨ua277_0, uc277_0, ua277_1, uc277_1, rfl, ul277_0, ge277_0, ul277_1, ge277_1⟩ := k36_openF hMe277
                  have hv277_0 := hcc277 0 _ rfl
                  rw [Nat.add_zero] at hv277_0
                  replace hv277_0 := Option.some.inj (hv277_0.symm.trans hx277_0)
                  injection hv277_0 with hva_ hvn_ hvc_
                  rw [hva_] at ge277_0
                  rw [hvc_] at ul277_0
                  have HL277_0 := Aside0.mk (show Kd.V (Kd.int .u8) 5 _ w.heap.size _ _ ((rd_T36 l1 x14_1).f0) from Kd.V_mk ul277_0 ge277_0)
                  clear hva_ hvn_ hvc_ ge277_0 ul277_0
                  have hv277_1 := hcc277 1 _ rfl
                  rw [add_field _ _ 1 (by omega)] at hv277_1
                  replace hv277_1 := Option.some.inj (hv277_1.symm.trans hx277_1)
                  injection hv277_1 with hva_ hvn_ hvc_
                  rw [hva_] at ge277_1
                  rw [hvc_] at ul277_1
                  have HL277_1 := Aside0.mk (show Kd.V (Kd.int .u8) 5 _ w.heap.size _ _ ((rd_T36 l1 x14_1).f1) from Kd.V_mk ul277_1 ge277_1)
                  clear hva_ hvn_ hvc_ ge277_1 ul277_1
                  clear hcc277 hce277
                  have HR277_0 := Aside0.mk hi277_0
                  have HC277_0 := Aside0.mk hl277_0
                  clear hi277_0 hl277_0
                  have HR277_1 := Aside0.mk hi277_1
                  have HC277_1 := Aside0.mk hl277_1
                  clear hi277_1 hl277_1
                  replace p277 := eq_true p277
                  replace q277 := eq_true q277
                  go_wp2_with (first | (go_at_call 30; (with_reducible refine (spec_OrderCompare.calls k1 a0 _ _ ((rd_T36 l1 x14_1).f0) _ _ l2 t278 _ ?side1 ?side2 ?side3 ?side4 A10.out).mono ?_); (case side1 => repeat (first | exact (by repeat (first | (with_reducible exact HR277_0.out) | (with_reducible refine Kd.C_alloc ?_ _) | (with_reducible refine Kd.C_drewN ?_ _) | (with_reducible refine Kd.C_drew ?_) | exact HR277_0.out)) | (with_reducible refine Kd.C_alloc ?_ _) | (with_reducible refine Kd.C_drewN ?_ _) | (with_reducible refine Kd.C_drew ?_))); (case side2 => exact HC277_0.out); (case side3 => repeat (first | exact (Kd.C_below HR2.out HB.out) | (with_reducible refine Kd.C_alloc ?_ _) | (with_reducible refine Kd.C_drewN ?_ _) | (with_reducible refine Kd.C_drew ?_))); (case side4 => exact HC2.out); rintro e w' ⟨rfl, ⟨nd, rfl⟩⟩; have p285 : 0 ≤ (x14_1 : Int) := of_decide_eq_true (by first | (with_reducible assumption) | assumption); have q285 : x14_1 < (l1.length : Int) := of_decide_eq_true (by first | (with_reducible assumption) | assumption); obtain ⟨ad285, A285_0, c285_0, A285_1, c285_1, e285, hx285_0, hx285_1, hl285_0, hi285_0, hl285_1, hi285_1⟩ := at_T36 (Kd.V_reads' HO_1.out).2.2 x14_1 p285 q285; obtain rfl : ad277 = ad285 := (by injection e285); obtain ⟨ce285, hce285, hMe285, hcc285⟩ := Kd.V_get HO_1.out z36 x14_1 p285 (by first | exact q285 | exact of_decide_eq_true (by first | (with_reducible assumption) | assumption) | (have e_ := (Kd.V_reads' HO_1.out).1; omega)); obtain ⟨ua285_0, uc285_0, ua285_1, uc285_1, rfl, ul285_0, ge285_0, ul285_1, ge285_1⟩ := k36_openF hMe285; have hv285_0 := hcc285 0 _ rfl; rw [Nat.add_zero] at hv285_0; replace hv285_0 := Option.some.inj (hv285_0.symm.trans hx285_0); injection hv285_0 with hva_ hvn_ hvc_; rw [hva_] at ge285_0; rw [hvc_] at ul285_0; have HL285_0 := Aside0.mk (show Kd.V (Kd.int .u8) 5 _ w.heap.size _ _ ((rd_T36 l1 x14_1).f0) from Kd.V_mk ul285_0 ge285_0); clear hva_ hvn_ hvc_ ge285_0 ul285_0; have hv285_1 := hcc285 1 _ rfl; rw [add_field _ _ 1 (by omega)] at hv285_1; replace hv285_1 := Option.some.inj (hv285_1.symm.trans hx285_1); injection hv285_1 with hva_ hvn_ hvc_; rw [hva_] at ge285_1; rw [hvc_] at ul285_1; have HL285_1 := Aside0.mk (show Kd.V (Kd.int .u8) 5 _ w.heap.size _ _ ((rd_T36 l1 x14_1).f1) from Kd.V_mk ul285_1 ge285_1); clear hva_ hvn_ hvc_ ge285_1 ul285_1; clear hcc285 hce285; have HR285_0 := Aside0.mk hi285_0; have HC285_0 := Aside0.mk hl285_0; clear hi285_0 hl285_0; have HR285_1 := Aside0.mk hi285_1; have HC285_1 := Aside0.mk hl285_1; clear hi285_1 hl285_1; replace p285 := eq_true p285; replace q285 := eq_true q285; have ea_ := Option.some.inj (hx277_0.symm.trans hx285_0); injection ea_ with ea_ en_ ec_; subst ea_; subst ec_; clear en_; have ea_ := Option.some.inj (hx277_1.symm.trans hx285_1); injection ea_ with ea_ en_ ec_; subst ea_; subst ec_; clear en_) | ((with_reducible refine gate_builtin (b := .append) (xs := #[.tmp 47, .tmp 52]) rfl ?_); at_builtin; refine Kd.N_append k36 (w0 := w) w.heap.size rfl (.tmp 47) (.tmp 52) 31 36 (.agg #[(.slice none 0 0), (.slice none 0 0)]) 48 rfl Tryz.underlying31 info36 rfl (by decide) (by omega) u13 x13_1 (⟨(rd_T36 l1 x14_1).f0, (rd_T36 l1 x14_1).f1⟩ : S36) [.slice A277_0 ((rd_T36 l1 x14_1).f0).length c277_0, .slice A277_1 ((rd_T36 l1 x14_1).f1).length c277_1] (fun k_ => (P1_ k_ ∨ w.heap.size ≤ k_)) (fun k_ => ((fun k_ => (P1_ k_ ∨ w.heap.size ≤ k_))) k_ ∧ some k_ ≠ (u13 : Value).ownBlock) rfl rfl ?aP (fun _ hk => hk) ?aF ?aO ?aB ?aS ?aL ?_; (case aP => exact (k36_mkF _ _ (⟨(rd_T36 l1 x14_1).f0, (rd_T36 l1 x14_1).f1⟩ : S36) (Kd.V_reads' (Kd.V_mono (ok' := (fun k_ => ((fun k_ => (P1_ k_ ∨ w.heap.size ≤ k_))) k_ ∧ some k_ ≠ (u13 : Value).ownBlock)) (HL285_0.out) (fun k_ hk => ⟨hk.1, hk.2⟩))).2.1 (Kd.V_F (Kd.V_mono (ok' := (fun k_ => ((fun k_ => (P1_ k_ ∨ w.heap.size ≤ k_))) k_ ∧ some k_ ≠ (u13 : Value).ownBlock)) (HL285_0.out) (fun k_ hk => ⟨hk.1, hk.2⟩))) (Kd.V_reads' (Kd.V_mono (ok' := (fun k_ => ((fun k_ => (P1_ k_ ∨ w.heap.size ≤ k_))) k_ ∧ some k_ ≠ (u13 : Value).ownBlock)) (HL285_1.out) (fun k_ hk => ⟨hk.1, hk.2⟩))).2.1 (Kd.V_F (Kd.V_mono (ok' := (fun k_ => ((fun k_ => (P1_ k_ ∨ w.heap.size ≤ k_))) k_ ∧ some k_ ≠ (u13 : Value).ownBlock)) (HL285_1.out) (fun k_ hk => ⟨hk.1, hk.2⟩))))); (case aB => exact (by repeat (first | (with_reducible first | exact HB.out | apply below_alloc | apply pw_below_drewN | apply below_drew1) | exact HB.out))); (case aF => exact (fun k_ hk => (.inr (Nat.le_trans (below_size (by repeat (first | (with_reducible first | exact HB.out | apply below_alloc | apply pw_below_drewN | apply below_drew1) | exact HB.out))) hk)))); (case aO => exact (by (with_reducible repeat (first | apply Kd.N_alloc | apply Kd.N_drewN | apply Kd.N_drew)); exact HO_13.out)); (case aS => exact (below_size (by repeat (first | (with_reducible first | exact HB.out | apply below_alloc | apply pw_below_drewN | apply below_drew1) | exact HB.out)))); (case aL => have := LMc17.out; omega); intro v287 w18 ho hb hg hat; rw [← Ny286.out] at ho; have n0_ := Aside0.mk (Kd.V_afterv (ok := (fun k_ => (P1_ k_ ∨ w.heap.size ≤ k_))) (by (with_reducible repeat (first | apply Kd.V_alloc | apply Kd.V_drewN | apply Kd.V_drew)); exact HO_1.out) hg hat); have n1_ := Aside0.mk (Kd.V_afterv (ok := (fun k_ => (P1_ k_ ∨ w.heap.size ≤ k_))) (by (with_reducible repeat (first | apply Kd.V_alloc | apply Kd.V_drewN | apply Kd.V_drew)); exact HL277_0.out) hg hat); have n2_ := Aside0.mk (Kd.V_afterv (ok := (fun k_ => (P1_ k_ ∨ w.heap.size ≤ k_))) (by (with_reducible repeat (first | apply Kd.V_alloc | apply Kd.V_drewN | apply Kd.V_drew)); exact HL277_1.out) hg hat); have n3_ := Aside0.mk (Kd.V_afterv (ok := (fun k_ => (P1_ k_ ∨ w.heap.size ≤ k_))) (by (with_reducible repeat (first | apply Kd.V_alloc | apply Kd.V_drewN | apply Kd.V_drew)); exact HL285_0.out) hg hat); have n4_ := Aside0.mk (Kd.V_afterv (ok := (fun k_ => (P1_ k_ ∨ w.heap.size ≤ k_))) (by (with_reducible repeat (first | apply Kd.V_alloc | apply Kd.V_drewN | apply Kd.V_drew)); exact HL285_1.out) hg hat); have n5_ := Aside0.mk (hb); have n6_ := Aside0.mk (ho); clear HO_1; clear HL277_0; clear HL277_1; clear HL285_0; clear HL285_1; clear HB; clear HO_13; have HO_1 := n0_; have HL277_0 := n1_; have HL277_1 := n2_; have HL285_0 := n3_; have HL285_1 := n4_; have HB := n5_; have HO288 := n6_; clear n0_ n1_ n2_ n3_ n4_ n5_ n6_; clear ho hb hg hat))
                  go_roundg k1
                  case measure => have := HK1.out; omega
                  case rel => exact ⟨(y286), (wrap64 (x14_1 + 1)), (by first | rfl | (simp; done) | (simp [*]; done)), H', ⟨by have := HK1.out; omega⟩, ⟨by (with_reducible repeat (first | apply Kd.V_alloc | apply Kd.V_drewN | apply Kd.V_drew)); exact HO_1.out⟩, ⟨by (with_reducible repeat (first | apply Kd.N_alloc | apply Kd.N_drewN | apply Kd.N_drew)); exact HO288.out⟩, ⟨by repeat (first | (with_reducible first | exact HB.out | apply below_alloc | apply pw_below_drewN | apply below_drew1) | exact HB.out)⟩⟩
                · rw [if_neg c17] at H
                  exact absurd H (by simp)
          · rw [if_neg c9] at H
            exact absurd H (by simp)
        · replace c8 := Bool.eq_false_iff.mpr c8
          subst c8
          have H1 : (if a5 = true then (if 0 ≤ x14_1 then ((spec_OrderCompare.f k1 a0 ((rd_T36 l1 x14_1).f0) l3).bind fun t290 => (if t290 ≥ 0 then (spec_CursorRange.l0 k1 a0 l1 l2 l3 false a5 x13_1 (wrap64 (x14_1 + 1))) else (if x13_1.length < 2932031007402 then (spec_CursorRange.l0 k1 a0 l1 l2 l3 false a5 (x13_1 ++ [(⟨(rd_T36 l1 x14_1).f0, (rd_T36 l1 x14_1).f1⟩ : S36)]) (wrap64 (x14_1 + 1))) else (none)))) else (none)) else (if 0 ≤ x14_1 then (if x13_1.length < 2932031007402 then (spec_CursorRange.l0 k1 a0 l1 l2 l3 false a5 (x13_1 ++ [(⟨(rd_T36 l1 x14_1).f0, (rd_T36 l1 x14_1).f1⟩ : S36)]) (wrap64 (x14_1 + 1))) else (none)) else (none))) = some r := by rw [if_neg (show ¬ (false = true) by decide)] at H; exact H
          clear H
          have H := H1
          clear H1
          by_cases c19 : a5 = true
          · subst c19
            have H1 : (if 0 ≤ x14_1 then ((spec_OrderCompare.f k1 a0 ((rd_T36 l1 x14_1).f0) l3).bind fun t290 => (if t290 ≥ 0 then (spec_CursorRange.l0 k1 a0 l1 l2 l3 false true x13_1 (wrap64 (x14_1 + 1))) else (if x13_1.length < 2932031007402 then (spec_CursorRange.l0 k1 a0 l1 l2 l3 false true (x13_1 ++ [(⟨(rd_T36 l1 x14_1).f0, (rd_T36 l1 x14_1).f1⟩ : S36)]) (wrap64 (x14_1 + 1))) else (none)))) else (none)) = some r := by rw [if_pos rfl] at H; exact H
            clear H
            have H := H1
            clear H1
            by_cases c20 : 0 ≤ x14_1
            · rw [if_pos c20] at H
              have c20b0 : decide (0 ≤ x14_1) = true := decide_eq_true c20
              clear c20
              replace H := Option.bind_eq_some_iff.mp H
              obtain ⟨t290, A210, H⟩ := H
              replace H : (if t290 ≥ 0 then (spec_CursorRange.l0 k1 a0 l1 l2 l3 false true x13_1 (wrap64 (x14_1 + 1))) else (if x13_1.length < 2932031007402 then (spec_CursorRange.l0 k1 a0 l1 l2 l3 false true (x13_1 ++ [(⟨(rd_T36 l1 x14_1).f0, (rd_T36 l1 x14_1).f1⟩ : S36)]) (wrap64 (x14_1 + 1))) else (none))) = some r := H
              have A21 := Aside0.mk A210
              clear A210
              by_cases c22 : t290 ≥ 0
              · rw [if_pos c22] at H
                have c22b0 : decide (0 ≤ t290) = true := decide_eq_true c22
                clear c22
                have H' := Aside0.mk H
                clear H
                have p289 : 0 ≤ (x14_1 : Int) := of_decide_eq_true (by first | (with_reducible assumption) | assumption)
                have q289 : x14_1 < (l1.length : Int) := of_decide_eq_true (by first | (with_reducible assumption) | assumption)
                obtain ⟨ad289, A289_0, c289_0, A289_1, c289_1, e289, hx289_0, hx289_1, hl289_0, hi289_0, hl289_1, hi289_1⟩ := at_T36 (Kd.V_reads' HO_1.out).2.2 x14_1 p289 q289
                cases e289
                obtain ⟨ce289, hce289, hMe289, hcc289⟩ := Kd.V_get HO_1.out z36 x14_1 p289 (by first | exact q289 | exact of_decide_eq_true (by first | (with_reducible assumption) | assumption) | (have e_ := (Kd.V_reads' HO_1.out).1; omega))
                obtain ⟨ua289_0, uc289_0, ua289_1, uc289_1, rfl, ul289_0, ge289_0, ul289_1, ge289_1⟩ := k36_openF hMe289
                have hv289_0 := hcc289 0 _ rfl
                rw [Nat.add_zero] at hv289_0
                replace hv289_0 := Option.some.inj (hv289_0.symm.trans hx289_0)
                injection hv289_0 with hva_ hvn_ hvc_
                rw [hva_] at ge289_0
                rw [hvc_] at ul289_0
                have HL289_0 := Aside0.mk (show Kd.V (Kd.int .u8) 5 _ w.heap.size _ _ ((rd_T36 l1 x14_1).f0) from Kd.V_mk ul289_0 ge289_0)
                clear hva_ hvn_ hvc_ ge289_0 ul289_0
                have hv289_1 := hcc289 1 _ rfl
                rw [add_field _ _ 1 (by omega)] at hv289_1
                replace hv289_1 := Option.some.inj (hv289_1.symm.trans hx289_1)
                injection hv289_1 with hva_ hvn_ hvc_
                rw [hva_] at ge289_1
                rw [hvc_] at ul289_1
                have HL289_1 := Aside0.mk (show Kd.V (Kd.int .u8) 5 _ w.heap.size _ _ ((rd_T36 l1 x14_1).f1) from Kd.V_mk ul289_1 ge289_1)
                clear hva_ hvn_ hvc_ ge289_1 ul289_1
                clear hcc289 hce289
                have HR289_0 := Aside0.mk hi289_0
                have HC289_0 := Aside0.mk hl289_0
                clear hi289_0 hl289_0
                have HR289_1 := Aside0.mk hi289_1
                have HC289_1 := Aside0.mk hl289_1
                clear hi289_1 hl289_1
                replace p289 := eq_true p289
                replace q289 := eq_true q289
                go_wp2_with (first | (go_at_call 30; (with_reducible refine (spec_OrderCompare.calls k1 a0 _ _ ((rd_T36 l1 x14_1).f0) _ _ l3 t290 _ ?side1 ?side2 ?side3 ?side4 A21.out).mono ?_); (case side1 => repeat (first | exact (by repeat (first | (with_reducible exact HR289_0.out) | (with_reducible refine Kd.C_alloc ?_ _) | (with_reducible refine Kd.C_drewN ?_ _) | (with_reducible refine Kd.C_drew ?_) | exact HR289_0.out)) | (with_reducible refine Kd.C_alloc ?_ _) | (with_reducible refine Kd.C_drewN ?_ _) | (with_reducible refine Kd.C_drew ?_))); (case side2 => exact HC289_0.out); (case side3 => repeat (first | exact (Kd.C_below HR3.out HB.out) | (with_reducible refine Kd.C_alloc ?_ _) | (with_reducible refine Kd.C_drewN ?_ _) | (with_reducible refine Kd.C_drew ?_))); (case side4 => exact HC3.out); rintro e w' ⟨rfl, ⟨nd, rfl⟩⟩))
                go_roundg k1
                case measure => have := HK1.out; omega
                case rel => exact ⟨(x13_1), (wrap64 (x14_1 + 1)), (by first | rfl | (simp; done) | (simp [*]; done)), H', ⟨by have := HK1.out; omega⟩, ⟨by (with_reducible repeat (first | apply Kd.V_alloc | apply Kd.V_drewN | apply Kd.V_drew)); exact HO_1.out⟩, ⟨by (with_reducible repeat (first | apply Kd.N_alloc | apply Kd.N_drewN | apply Kd.N_drew)); exact HO_13.out⟩, ⟨by repeat (first | (with_reducible first | exact HB.out | apply below_alloc | apply pw_below_drewN | apply below_drew1) | exact HB.out)⟩⟩
              · rw [if_neg c22] at H
                have c22b0 : decide (0 ≤ t290) = false := decide_eq_false c22
                clear c22
                by_cases c23 : x13_1.length < 2932031007402
                · rw [if_pos c23] at H
                  have LMc23 := Aside0.mk c23
                  clear c23
                  obtain ⟨y292, hy292⟩ : ∃ y_ : List (S36), y_ = (x13_1 ++ [(⟨(rd_T36 l1 x14_1).f0, (rd_T36 l1 x14_1).f1⟩ : S36)]) := ⟨_, rfl⟩
                  replace H : (spec_CursorRange.l0 k1 a0 l1 l2 l3 false true y292 (wrap64 (x14_1 + 1))) = some r := by first | (rw [hy292]; with_reducible exact H) | (have H2_ := (Option.bind_some _ _).symm.trans H; rw [hy292]; with_reducible exact H2_) | (have H2_ := (Option.bind_some _ _).symm.trans H; with_reducible exact H2_) | with_reducible exact H | (rw [hy292]; exact H) | exact H
                  have Ny292 := Aside0.mk hy292
                  clear hy292
                  have H' := Aside0.mk H
                  clear H
                  have p289 : 0 ≤ (x14_1 : Int) := of_decide_eq_true (by first | (with_reducible assumption) | assumption)
                  have q289 : x14_1 < (l1.length : Int) := of_decide_eq_true (by first | (with_reducible assumption) | assumption)
                  obtain ⟨ad289, A289_0, c289_0, A289_1, c289_1, e289, hx289_0, hx289_1, hl289_0, hi289_0, hl289_1, hi289_1⟩ := at_T36 (Kd.V_reads' HO_1.out).2.2 x14_1 p289 q289
                  cases e289
                  obtain ⟨ce289, hce289, hMe289, hcc289⟩ := Kd.V_get HO_1.out z36 x14_1 p289 (by first | exact q289 | exact of_decide_eq_true (by first | (with_reducible assumption) | assumption) | (have e_ := (Kd.V_reads' HO_1.out).1; omega))
                  obtain ⟨ua289_0, uc289_0, ua289_1, uc289_1, rfl, ul289_0, ge289_0, ul289_1, ge289_1⟩ := k36_openF hMe289
                  have hv289_0 := hcc289 0 _ rfl
                  rw [Nat.add_zero] at hv289_0
                  replace hv289_0 := Option.some.inj (hv289_0.symm.trans hx289_0)
                  injection hv289_0 with hva_ hvn_ hvc_
                  rw [hva_] at ge289_0
                  rw [hvc_] at ul289_0
                  have HL289_0 := Aside0.mk (show Kd.V (Kd.int .u8) 5 _ w.heap.size _ _ ((rd_T36 l1 x14_1).f0) from Kd.V_mk ul289_0 ge289_0)
                  clear hva_ hvn_ hvc_ ge289_0 ul289_0
                  have hv289_1 := hcc289 1 _ rfl
                  rw [add_field _ _ 1 (by omega)] at hv289_1
                  replace hv289_1 := Option.some.inj (hv289_1.symm.trans hx289_1)
                  injection hv289_1 with hva_ hvn_ hvc_
                  rw [hva_] at ge289_1
                  rw [hvc_] at ul289_1
                  have HL289_1 := Aside0.mk (show Kd.V (Kd.int .u8) 5 _ w.heap.size _ _ ((rd_T36 l1 x14_1).f1) from Kd.V_mk ul289_1 ge289_1)
                  clear hva_ hvn_ hvc_ ge289_1 ul289_1
                  clear hcc289 hce289
                  have HR289_0 := Aside0.mk hi289_0
                  have HC289_0 := Aside0.mk hl289_0
                  clear hi289_0 hl289_0
                  have HR289_1 := Aside0.mk hi289_1
                  have HC289_1 := Aside0.mk hl289_1
                  clear hi289_1 hl289_1
                  replace p289 := eq_true p289
                  replace q289 := eq_true q289
                  go_wp2_with (first | (go_at_call 30; (with_reducible refine (spec_OrderCompare.calls k1 a0 _ _ ((rd_T36 l1 x14_1).f0) _ _ l3 t290 _ ?side1 ?side2 ?side3 ?side4 A21.out).mono ?_); (case side1 => repeat (first | exact (by repeat (first | (with_reducible exact HR289_0.out) | (with_reducible refine Kd.C_alloc ?_ _) | (with_reducible refine Kd.C_drewN ?_ _) | (with_reducible refine Kd.C_drew ?_) | exact HR289_0.out)) | (with_reducible refine Kd.C_alloc ?_ _) | (with_reducible refine Kd.C_drewN ?_ _) | (with_reducible refine Kd.C_drew ?_))); (case side2 => exact HC289_0.out); (case side3 => repeat (first | exact (Kd.C_below HR3.out HB.out) | (with_reducible refine Kd.C_alloc ?_ _) | (with_reducible refine Kd.C_drewN ?_ _) | (with_reducible refine Kd.C_drew ?_))); (case side4 => exact HC3.out); rintro e w' ⟨rfl, ⟨nd, rfl⟩⟩; have p291 : 0 ≤ (x14_1 : Int) := of_decide_eq_true (by first | (with_reducible assumption) | assumption); have q291 : x14_1 < (l1.length : Int) := of_decide_eq_true (by first | (with_reducible assumption) | assumption); obtain ⟨ad291, A291_0, c291_0, A291_1, c291_1, e291, hx291_0, hx291_1, hl291_0, hi291_0, hl291_1, hi291_1⟩ := at_T36 (Kd.V_reads' HO_1.out).2.2 x14_1 p291 q291; obtain rfl : ad289 = ad291 := (by injection e291); obtain ⟨ce291, hce291, hMe291, hcc291⟩ := Kd.V_get HO_1.out z36 x14_1 p291 (by first | exact q291 | exact of_decide_eq_true (by first | (with_reducible assumption) | assumption) | (have e_ := (Kd.V_reads' HO_1.out).1; omega)); obtain ⟨ua291_0, uc291_0, ua291_1, uc291_1, rfl, ul291_0, ge291_0, ul291_1, ge291_1⟩ := k36_openF hMe291; have hv291_0 := hcc291 0 _ rfl; rw [Nat.add_zero] at hv291_0; replace hv291_0 := Option.some.inj (hv291_0.symm.trans hx291_0); injection hv291_0 with hva_ hvn_ hvc_; rw [hva_] at ge291_0; rw [hvc_] at ul291_0; have HL291_0 := Aside0.mk (show Kd.V (Kd.int .u8) 5 _ w.heap.size _ _ ((rd_T36 l1 x14_1).f0) from Kd.V_mk ul291_0 ge291_0); clear hva_ hvn_ hvc_ ge291_0 ul291_0; have hv291_1 := hcc291 1 _ rfl; rw [add_field _ _ 1 (by omega)] at hv291_1; replace hv291_1 := Option.some.inj (hv291_1.symm.trans hx291_1); injection hv291_1 with hva_ hvn_ hvc_; rw [hva_] at ge291_1; rw [hvc_] at ul291_1; have HL291_1 := Aside0.mk (show Kd.V (Kd.int .u8) 5 _ w.heap.size _ _ ((rd_T36 l1 x14_1).f1) from Kd.V_mk ul291_1 ge291_1); clear hva_ hvn_ hvc_ ge291_1 ul291_1; clear hcc291 hce291; have HR291_0 := Aside0.mk hi291_0; have HC291_0 := Aside0.mk hl291_0; clear hi291_0 hl291_0; have HR291_1 := Aside0.mk hi291_1; have HC291_1 := Aside0.mk hl291_1; clear hi291_1 hl291_1; replace p291 := eq_true p291; replace q291 := eq_true q291; have ea_ := Option.some.inj (hx289_0.symm.trans hx291_0); injection ea_ with ea_ en_ ec_; subst ea_; subst ec_; clear en_; have ea_ := Option.some.inj (hx289_1.symm.trans hx291_1); injection ea_ with ea_ en_ ec_; subst ea_; subst ec_; clear en_) | ((with_reducible refine gate_builtin (b := .append) (xs := #[.tmp 47, .tmp 52]) rfl ?_); at_builtin; refine Kd.N_append k36 (w0 := w) w.heap.size rfl (.tmp 47) (.tmp 52) 31 36 (.agg #[(.slice none 0 0), (.slice none 0 0)]) 48 rfl Tryz.underlying31 info36 rfl (by decide) (by omega) u13 x13_1 (⟨(rd_T36 l1 x14_1).f0, (rd_T36 l1 x14_1).f1⟩ : S36) [.slice A289_0 ((rd_T36 l1 x14_1).f0).length c289_0, .slice A289_1 ((rd_T36 l1 x14_1).f1).length c289_1] (fun k_ => (P1_ k_ ∨ w.heap.size ≤ k_)) (fun k_ => ((fun k_ => (P1_ k_ ∨ w.heap.size ≤ k_))) k_ ∧ some k_ ≠ (u13 : Value).ownBlock) rfl rfl ?aP (fun _ hk => hk) ?aF ?aO ?aB ?aS ?aL ?_; (case aP => exact (k36_mkF _ _ (⟨(rd_T36 l1 x14_1).f0, (rd_T36 l1 x14_1).f1⟩ : S36) (Kd.V_reads' (Kd.V_mono (ok' := (fun k_ => ((fun k_ => (P1_ k_ ∨ w.heap.size ≤ k_))) k_ ∧ some k_ ≠ (u13 : Value).ownBlock)) (HL291_0.out) (fun k_ hk => ⟨hk.1, hk.2⟩))).2.1 (Kd.V_F (Kd.V_mono (ok' := (fun k_ => ((fun k_ => (P1_ k_ ∨ w.heap.size ≤ k_))) k_ ∧ some k_ ≠ (u13 : Value).ownBlock)) (HL291_0.out) (fun k_ hk => ⟨hk.1, hk.2⟩))) (Kd.V_reads' (Kd.V_mono (ok' := (fun k_ => ((fun k_ => (P1_ k_ ∨ w.heap.size ≤ k_))) k_ ∧ some k_ ≠ (u13 : Value).ownBlock)) (HL291_1.out) (fun k_ hk => ⟨hk.1, hk.2⟩))).2.1 (Kd.V_F (Kd.V_mono (ok' := (fun k_ => ((fun k_ => (P1_ k_ ∨ w.heap.size ≤ k_))) k_ ∧ some k_ ≠ (u13 : Value).ownBlock)) (HL291_1.out) (fun k_ hk => ⟨hk.1, hk.2⟩))))); (case aB => exact (by repeat (first | (with_reducible first | exact HB.out | apply below_alloc | apply pw_below_drewN | apply below_drew1) | exact HB.out))); (case aF => exact (fun k_ hk => (.inr (Nat.le_trans (below_size (by repeat (first | (with_reducible first | exact HB.out | apply below_alloc | apply pw_below_drewN | apply below_drew1) | exact HB.out))) hk)))); (case aO => exact (by (with_reducible repeat (first | apply Kd.N_alloc | apply Kd.N_drewN | apply Kd.N_drew)); exact HO_13.out)); (case aS => exact (below_size (by repeat (first | (with_reducible first | exact HB.out | apply below_alloc | apply pw_below_drewN | apply below_drew1) | exact HB.out)))); (case aL => have := LMc23.out; omega); intro v293 w24 ho hb hg hat; rw [← Ny292.out] at ho; have n0_ := Aside0.mk (Kd.V_afterv (ok := (fun k_ => (P1_ k_ ∨ w.heap.size ≤ k_))) (by (with_reducible repeat (first | apply Kd.V_alloc | apply Kd.V_drewN | apply Kd.V_drew)); exact HO_1.out) hg hat); have n1_ := Aside0.mk (Kd.V_afterv (ok := (fun k_ => (P1_ k_ ∨ w.heap.size ≤ k_))) (by (with_reducible repeat (first | apply Kd.V_alloc | apply Kd.V_drewN | apply Kd.V_drew)); exact HL289_0.out) hg hat); have n2_ := Aside0.mk (Kd.V_afterv (ok := (fun k_ => (P1_ k_ ∨ w.heap.size ≤ k_))) (by (with_reducible repeat (first | apply Kd.V_alloc | apply Kd.V_drewN | apply Kd.V_drew)); exact HL289_1.out) hg hat); have n3_ := Aside0.mk (Kd.V_afterv (ok := (fun k_ => (P1_ k_ ∨ w.heap.size ≤ k_))) (by (with_reducible repeat (first | apply Kd.V_alloc | apply Kd.V_drewN | apply Kd.V_drew)); exact HL291_0.out) hg hat); have n4_ := Aside0.mk (Kd.V_afterv (ok := (fun k_ => (P1_ k_ ∨ w.heap.size ≤ k_))) (by (with_reducible repeat (first | apply Kd.V_alloc | apply Kd.V_drewN | apply Kd.V_drew)); exact HL291_1.out) hg hat); have n5_ := Aside0.mk (hb); have n6_ := Aside0.mk (ho); clear HO_1; clear HL289_0; clear HL289_1; clear HL291_0; clear HL291_1; clear HB; clear HO_13; have HO_1 := n0_; have HL289_0 := n1_; have HL289_1 := n2_; have HL291_0 := n3_; have HL291_1 := n4_; have HB := n5_; have HO294 := n6_; clear n0_ n1_ n2_ n3_ n4_ n5_ n6_; clear ho hb hg hat))
                  go_roundg k1
                  case measure => have := HK1.out; omega
                  case rel => exact ⟨(y292), (wrap64 (x14_1 + 1)), (by first | rfl | (simp; done) | (simp [*]; done)), H', ⟨by have := HK1.out; omega⟩, ⟨by (with_reducible repeat (first | apply Kd.V_alloc | apply Kd.V_drewN | apply Kd.V_drew)); exact HO_1.out⟩, ⟨by (with_reducible repeat (first | apply Kd.N_alloc | apply Kd.N_drewN | apply Kd.N_drew)); exact HO294.out⟩, ⟨by repeat (first | (with_reducible first | exact HB.out | apply below_alloc | apply pw_below_drewN | apply below_drew1) | exact HB.out)⟩⟩
                · rw [if_neg c23] at H
                  exact absurd H (by simp)
            · rw [if_neg c20] at H
              exact absurd H (by simp)
          · replace c19 := Bool.eq_false_iff.mpr c19
            subst c19
            have H1 : (if 0 ≤ x14_1 then (if x13_1.length < 2932031007402 then (spec_CursorRange.l0 k1 a0 l1 l2 l3 false false (x13_1 ++ [(⟨(rd_T36 l1 x14_1).f0, (rd_T36 l1 x14_1).f1⟩ : S36)]) (wrap64 (x14_1 + 1))) else (none)) else (none)) = some r := by rw [if_neg (show ¬ (false = true) by decide)] at H; exact H
            clear H
            have H := H1
            clear H1
            by_cases c25 : 0 ≤ x14_1
            · rw [if_pos c25] at H
              have c25b0 : decide (0 ≤ x14_1) = true := decide_eq_true c25
              clear c25
              by_cases c26 : x13_1.length < 2932031007402
              · rw [if_pos c26] at H
                have LMc26 := Aside0.mk c26
                clear c26
                obtain ⟨y296, hy296⟩ : ∃ y_ : List (S36), y_ = (x13_1 ++ [(⟨(rd_T36 l1 x14_1).f0, (rd_T36 l1 x14_1).f1⟩ : S36)]) := ⟨_, rfl⟩
                replace H : (spec_CursorRange.l0 k1 a0 l1 l2 l3 false false y296 (wrap64 (x14_1 + 1))) = some r := by first | (rw [hy296]; with_reducible exact H) | (have H2_ := (Option.bind_some _ _).symm.trans H; rw [hy296]; with_reducible exact H2_) | (have H2_ := (Option.bind_some _ _).symm.trans H; with_reducible exact H2_) | with_reducible exact H | (rw [hy296]; exact H) | exact H
                have Ny296 := Aside0.mk hy296
                clear hy296
                have H' := Aside0.mk H
                clear H
                have p295 : 0 ≤ (x14_1 : Int) := of_decide_eq_true (by first | (with_reducible assumption) | assumption)
                have q295 : x14_1 < (l1.length : Int) := of_decide_eq_true (by first | (with_reducible assumption) | assumption)
                obtain ⟨ad295, A295_0, c295_0, A295_1, c295_1, e295, hx295_0, hx295_1, hl295_0, hi295_0, hl295_1, hi295_1⟩ := at_T36 (Kd.V_reads' HO_1.out).2.2 x14_1 p295 q295
                cases e295
                obtain ⟨ce295, hce295, hMe295, hcc295⟩ := Kd.V_get HO_1.out z36 x14_1 p295 (by first | exact q295 | exact of_decide_eq_true (by first | (with_reducible assumption) | assumption) | (have e_ := (Kd.V_reads' HO_1.out).1; omega))
                obtain ⟨ua295_0, uc295_0, ua295_1, uc295_1, rfl, ul295_0, ge295_0, ul295_1, ge295_1⟩ := k36_openF hMe295
                have hv295_0 := hcc295 0 _ rfl
                rw [Nat.add_zero] at hv295_0
                replace hv295_0 := Option.some.inj (hv295_0.symm.trans hx295_0)
                injection hv295_0 with hva_ hvn_ hvc_
                rw [hva_] at ge295_0
                rw [hvc_] at ul295_0
                have HL295_0 := Aside0.mk (show Kd.V (Kd.int .u8) 5 _ w.heap.size _ _ ((rd_T36 l1 x14_1).f0) from Kd.V_mk ul295_0 ge295_0)
                clear hva_ hvn_ hvc_ ge295_0 ul295_0
                have hv295_1 := hcc295 1 _ rfl
                rw [add_field _ _ 1 (by omega)] at hv295_1
                replace hv295_1 := Option.some.inj (hv295_1.symm.trans hx295_1)
                injection hv295_1 with hva_ hvn_ hvc_
                rw [hva_] at ge295_1
                rw [hvc_] at ul295_1
                have HL295_1 := Aside0.mk (show Kd.V (Kd.int .u8) 5 _ w.heap.size _ _ ((rd_T36 l1 x14_1).f1) from Kd.V_mk ul295_1 ge295_1)
                clear hva_ hvn_ hvc_ ge295_1 ul295_1
                clear hcc295 hce295
                have HR295_0 := Aside0.mk hi295_0
                have HC295_0 := Aside0.mk hl295_0
                clear hi295_0 hl295_0
                have HR295_1 := Aside0.mk hi295_1
                have HC295_1 := Aside0.mk hl295_1
                clear hi295_1 hl295_1
                replace p295 := eq_true p295
                replace q295 := eq_true q295
                go_wp2_with (first | ((with_reducible refine gate_builtin (b := .append) (xs := #[.tmp 47, .tmp 52]) rfl ?_); at_builtin; refine Kd.N_append k36 (w0 := w) w.heap.size rfl (.tmp 47) (.tmp 52) 31 36 (.agg #[(.slice none 0 0), (.slice none 0 0)]) 48 rfl Tryz.underlying31 info36 rfl (by decide) (by omega) u13 x13_1 (⟨(rd_T36 l1 x14_1).f0, (rd_T36 l1 x14_1).f1⟩ : S36) [.slice A295_0 ((rd_T36 l1 x14_1).f0).length c295_0, .slice A295_1 ((rd_T36 l1 x14_1).f1).length c295_1] (fun k_ => (P1_ k_ ∨ w.heap.size ≤ k_)) (fun k_ => ((fun k_ => (P1_ k_ ∨ w.heap.size ≤ k_))) k_ ∧ some k_ ≠ (u13 : Value).ownBlock) rfl rfl ?aP (fun _ hk => hk) ?aF ?aO ?aB ?aS ?aL ?_; (case aP => exact (k36_mkF _ _ (⟨(rd_T36 l1 x14_1).f0, (rd_T36 l1 x14_1).f1⟩ : S36) (Kd.V_reads' (Kd.V_mono (ok' := (fun k_ => ((fun k_ => (P1_ k_ ∨ w.heap.size ≤ k_))) k_ ∧ some k_ ≠ (u13 : Value).ownBlock)) (HL295_0.out) (fun k_ hk => ⟨hk.1, hk.2⟩))).2.1 (Kd.V_F (Kd.V_mono (ok' := (fun k_ => ((fun k_ => (P1_ k_ ∨ w.heap.size ≤ k_))) k_ ∧ some k_ ≠ (u13 : Value).ownBlock)) (HL295_0.out) (fun k_ hk => ⟨hk.1, hk.2⟩))) (Kd.V_reads' (Kd.V_mono (ok' := (fun k_ => ((fun k_ => (P1_ k_ ∨ w.heap.size ≤ k_))) k_ ∧ some k_ ≠ (u13 : Value).ownBlock)) (HL295_1.out) (fun k_ hk => ⟨hk.1, hk.2⟩))).2.1 (Kd.V_F (Kd.V_mono (ok' := (fun k_ => ((fun k_ => (P1_ k_ ∨ w.heap.size ≤ k_))) k_ ∧ some k_ ≠ (u13 : Value).ownBlock)) (HL295_1.out) (fun k_ hk => ⟨hk.1, hk.2⟩))))); (case aB => exact (by repeat (first | (with_reducible first | exact HB.out | apply below_alloc | apply pw_below_drewN | apply below_drew1) | exact HB.out))); (case aF => exact (fun k_ hk => (.inr (Nat.le_trans (below_size (by repeat (first | (with_reducible first | exact HB.out | apply below_alloc | apply pw_below_drewN | apply below_drew1) | exact HB.out))) hk)))); (case aO => exact (by (with_reducible repeat (first | apply Kd.N_alloc | apply Kd.N_drewN | apply Kd.N_drew)); exact HO_13.out)); (case aS => exact (below_size (by repeat (first | (with_reducible first | exact HB.out | apply below_alloc | apply pw_below_drewN | apply below_drew1) | exact HB.out)))); (case aL => have := LMc26.out; omega); intro v297 w27 ho hb hg hat; rw [← Ny296.out] at ho; have n0_ := Aside0.mk (Kd.V_afterv (ok := (fun k_ => (P1_ k_ ∨ w.heap.size ≤ k_))) (by (with_reducible repeat (first | apply Kd.V_alloc | apply Kd.V_drewN | apply Kd.V_drew)); exact HO_1.out) hg hat); have n1_ := Aside0.mk (Kd.V_afterv (ok := (fun k_ => (P1_ k_ ∨ w.heap.size ≤ k_))) (by (with_reducible repeat (first | apply Kd.V_alloc | apply Kd.V_drewN | apply Kd.V_drew)); exact HL295_0.out) hg hat); have n2_ := Aside0.mk (Kd.V_afterv (ok := (fun k_ => (P1_ k_ ∨ w.heap.size ≤ k_))) (by (with_reducible repeat (first | apply Kd.V_alloc | apply Kd.V_drewN | apply Kd.V_drew)); exact HL295_1.out) hg hat); have n3_ := Aside0.mk (hb); have n4_ := Aside0.mk (ho); clear HO_1; clear HL295_0; clear HL295_1; clear HB; clear HO_13; have HO_1 := n0_; have HL295_0 := n1_; have HL295_1 := n2_; have HB := n3_; have HO298 := n4_; clear n0_ n1_ n2_ n3_ n4_; clear ho hb hg hat))
                go_roundg k1
                case measure => have := HK1.out; omega
                case rel => exact ⟨(y296), (wrap64 (x14_1 + 1)), (by first | rfl | (simp; done) | (simp [*]; done)), H', ⟨by have := HK1.out; omega⟩, ⟨by (with_reducible repeat (first | apply Kd.V_alloc | apply Kd.V_drewN | apply Kd.V_drew)); exact HO_1.out⟩, ⟨by (with_reducible repeat (first | apply Kd.N_alloc | apply Kd.N_drewN | apply Kd.N_drew)); exact HO298.out⟩, ⟨by repeat (first | (with_reducible first | exact HB.out | apply below_alloc | apply pw_below_drewN | apply below_drew1) | exact HB.out)⟩⟩
              · rw [if_neg c26] at H
                exact absurd H (by simp)
            · rw [if_neg c25] at H
              exact absurd H (by simp)
      · rw [if_neg c7] at H
        have c7b0 : decide (x14_1 < (l1.length : Int)) = false := decide_eq_false c7
        clear c7
        obtain rfl := Option.some.inj H
        go_wp2
        go_ret
        exact ⟨_, by first | rfl | (simp [errW_none, errW_some] <;> rfl) | (simp [*, errW_none, errW_some] <;> rfl), by (with_reducible repeat (first | apply Kd.N_alloc | apply Kd.N_drewN | apply Kd.N_drew)); exact HO_13.out, by repeat (first | (with_reducible first | exact HB.out | apply below_alloc | apply pw_below_drewN | apply below_drew1) | exact HB.out)⟩

end Go.Proofs.YtdkkkikcigjlhaaGreatDoor.PFnMemMap
