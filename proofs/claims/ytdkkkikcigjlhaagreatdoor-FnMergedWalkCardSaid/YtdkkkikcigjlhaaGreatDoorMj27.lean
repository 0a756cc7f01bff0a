/- Walks of functions of the laws and of the reference: a cut of what print.sh prints for FnMemWalk. Walks of functions of the laws and of the reference: a cut of what print.sh prints for FnArrayWalk. The laws' small functions, as printed: what they tell. Literals of the laws' fixed call: pairs, moves. -/
import Derived.Test.YtdkkkikcigjlhaaGreatDoorMj06
import Derived.Test.YtdkkkikcigjlhaaGreatDoorMj07
import Derived.Test.YtdkkkikcigjlhaaGreatDoorMj08
import Derived.Test.YtdkkkikcigjlhaaGreatDoorMj14
import Derived.Test.YtdkkkikcigjlhaaGreatDoorMj26
set_option linter.unusedVariables false
set_option linter.unusedSimpArgs false
namespace Go.Proofs.YtdkkkikcigjlhaaGreatDoor.PFnMemMap
open Go.RowKit Go.Proofs.YtdkkkikcigjlhaaGreatDoorW.PrintWords Go.Proofs.YtdkkkikcigjlhaaGreatDoorW.PrintLast Go.Proofs.YtdkkkikcigjlhaaGreatDoorW.PrintMore
attribute [local go_sem] max2_int min2_int max_two min_two max_three min_three max_four min_four   -- for this text's walks alone

/-! ### spec_CursorRange: function 32 -/
end Go.Proofs.YtdkkkikcigjlhaaGreatDoor.PFnMemMap

namespace Go.Proofs.YtdkkkikcigjlhaaGreatDoor.PFnMemMap
open Go.RowKit Go.Proofs.YtdkkkikcigjlhaaGreatDoorW.PrintWords Go.Proofs.YtdkkkikcigjlhaaGreatDoorW.PrintLast Go.Proofs.YtdkkkikcigjlhaaGreatDoorW.PrintMore
attribute [local go_sem] max2_int min2_int max_two min_two max_three min_three max_four min_four   -- for this text's walks alone

/-! ### spec_CursorRises: function 25 -/
def spec_CursorRises.l0 : Nat → Int → List (S36) → Int → Option (Bool)
  | 0, _, _, _ => none
  | k + 1, x0, x1, x5 => if x5 < (x1.length : Int) then (if 0 ≤ (wrap64 (x5 - 1)) then (if (wrap64 (x5 - 1)) < (x1.length : Int) then (if 0 ≤ x5 then ((spec_OrderCompare.f k x0 ((rd_T36 x1 (wrap64 (x5 - 1))).f0) ((rd_T36 x1 x5).f0)).bind fun t147 => (if t147 ≥ 0 then (some false) else (spec_CursorRises.l0 k x0 x1 (wrap64 (x5 + 1))))) else (none)) else (none)) else (none)) else (some true)
def spec_CursorRises.f (k : Nat) (a0 : Int) (l1 : List (S36)) : Option (Bool) := spec_CursorRises.l0 k a0 l1 1
set_option maxHeartbeats 8000000 in
set_option maxRecDepth 100000 in
theorem spec_CursorRises.calls (k : Nat) (a0 : Int) (A1 : Option Addr) (c1 : Nat) (l1 : List (S36)) (r : Bool) (w : World) (hr1 : Kd.C k36 w A1 l1.length l1) (hc1 : l1.length ≤ c1) (h : spec_CursorRises.f k a0 l1 = some r) :
    Calls Tryz.prog 25 #[.int .i64 a0, .slice A1 l1.length c1] w fun e w' => e = .returned (.bool r) ∧ Drawn0 w w' := by
  have HR1 := Aside0.mk hr1
  have HC1 := Aside0.mk hc1
  clear hr1 hc1
  have H : (spec_CursorRises.l0 k a0 l1 1) = some r := h
  clear h
  have H' := Aside0.mk H
  clear H
  go_enter Tryz.func25, Tryz.ntmps25
  go_wp2
  repeat (go_quiet (fail); try go_wp2)
  go_loopg [5] k (fun kq v5 w' => ∃ (x5_1 : Int), v5 = .int .i64 x5_1 ∧ Aside0 (spec_CursorRises.l0 kq a0 l1 x5_1 = some r) ∧ Aside0 (kq ≤ k) ∧ Drawn0 w w')
  case atStart => exact ⟨(1), (by first | rfl | (simp; done) | (simp [*]; done)), H', ⟨Nat.le_refl _⟩, by repeat (first | exact Drawn0.refl _ | apply Drawn0.step)⟩
  case round =>
    clear H'
    try clear c1
    try clear c2
    try clear p2
    obtain ⟨x5_1, rfl, HA, HK1, ⟨m1, rfl⟩⟩ := hrel
    cases gk with
    | zero => exact absurd HA.out (by simp [spec_CursorRises.l0])
    | succ k1 =>
      have H := HA.out
      clear HA
      simp only [spec_CursorRises.l0] at H
      by_cases c3 : x5_1 < (l1.length : Int)
      · rw [if_pos c3] at H
        have c3b0 : decide (x5_1 < (l1.length : Int)) = true := decide_eq_true c3
        clear c3
        obtain ⟨ji4, hji4⟩ : ∃ j_ : Int, (wrap64 (x5_1 - 1)) = j_ := ⟨_, rfl⟩
        replace H : (if 0 ≤ (ji4) then (if (ji4) < (l1.length : Int) then (if 0 ≤ x5_1 then ((spec_OrderCompare.f k1 a0 ((rd_T36 l1 (ji4)).f0) ((rd_T36 l1 x5_1).f0)).bind fun t147 => (if t147 ≥ 0 then (some false) else (spec_CursorRises.l0 k1 a0 l1 (wrap64 (x5_1 + 1))))) else (none)) else (none)) else (none)) = some r := by first | (rw [hji4] at H; exact H) | (simp only [hji4] at H ⊢; exact H)
        have hji4w : (IntKind.i64.wrap (x5_1 - 1)) = ji4 := (i64_w _).trans hji4
        by_cases c5 : 0 ≤ (ji4)
        · rw [if_pos c5] at H
          have c5b0 : decide (0 ≤ (ji4)) = true := decide_eq_true c5
          clear c5
          by_cases c6 : (ji4) < (l1.length : Int)
          · rw [if_pos c6] at H
            have c6b0 : decide ((ji4) < (l1.length : Int)) = true := decide_eq_true c6
            clear c6
            by_cases c7 : 0 ≤ x5_1
            · rw [if_pos c7] at H
              have c7b0 : decide (0 ≤ x5_1) = true := decide_eq_true c7
              clear c7
              replace H := Option.bind_eq_some_iff.mp H
              obtain ⟨t147, A80, H⟩ := H
              replace H : (if t147 ≥ 0 then (some false) else (spec_CursorRises.l0 k1 a0 l1 (wrap64 (x5_1 + 1)))) = some r := H
              have A8 := Aside0.mk A80
              clear A80
              by_cases c9 : t147 ≥ 0
              · rw [if_pos c9] at H
                have c9b0 : decide (0 ≤ t147) = true := decide_eq_true c9
                clear c9
                obtain rfl := Option.some.inj H
                have p145 : 0 ≤ ((ji4) : Int) := of_decide_eq_true (by first | (with_reducible assumption) | assumption)
                have q145 : (ji4) < (l1.length : Int) := of_decide_eq_true (by first | (with_reducible assumption) | assumption)
                obtain ⟨ad145, A145_0, c145_0, A145_1, c145_1, e145, hx145_0, hx145_1, hl145_0, hi145_0, hl145_1, hi145_1⟩ := at_T36 HR1.out (ji4) p145 q145
                cases e145
                have HR145_0 := Aside0.mk hi145_0
                have HC145_0 := Aside0.mk hl145_0
                clear hi145_0 hl145_0
                have HR145_1 := Aside0.mk hi145_1
                have HC145_1 := Aside0.mk hl145_1
                clear hi145_1 hl145_1
                replace p145 := eq_true p145
                replace q145 := eq_true q145
                have p146 : 0 ≤ (x5_1 : Int) := of_decide_eq_true (by first | (with_reducible assumption) | assumption)
                have q146 : x5_1 < (l1.length : Int) := of_decide_eq_true (by first | (with_reducible assumption) | assumption)
                obtain ⟨ad146, A146_0, c146_0, A146_1, c146_1, e146, hx146_0, hx146_1, hl146_0, hi146_0, hl146_1, hi146_1⟩ := at_T36 HR1.out x5_1 p146 q146
                obtain rfl : ad145 = ad146 := (by injection e146)
                have HR146_0 := Aside0.mk hi146_0
                have HC146_0 := Aside0.mk hl146_0
                clear hi146_0 hl146_0
                have HR146_1 := Aside0.mk hi146_1
                have HC146_1 := Aside0.mk hl146_1
                clear hi146_1 hl146_1
                replace p146 := eq_true p146
                replace q146 := eq_true q146
                go_wp2_with (first | (go_at_call 30; (with_reducible refine (spec_OrderCompare.calls k1 a0 _ _ ((rd_T36 l1 (ji4)).f0) _ _ ((rd_T36 l1 x5_1).f0) t147 _ ?side1 ?side2 ?side3 ?side4 A8.out).mono ?_); (case side1 => repeat (first | exact HR145_0.out | (with_reducible refine Kd.C_alloc ?_ _) | (with_reducible refine Kd.C_drewN ?_ _) | (with_reducible refine Kd.C_drew ?_))); (case side2 => exact HC145_0.out); (case side3 => repeat (first | exact HR146_0.out | (with_reducible refine Kd.C_alloc ?_ _) | (with_reducible refine Kd.C_drewN ?_ _) | (with_reducible refine Kd.C_drew ?_))); (case side4 => exact HC146_0.out); rintro e w' ⟨rfl, ⟨nd, rfl⟩⟩; (try first | exact ⟨rfl, _, World.drewN_drewN _ _ _⟩ | exact ⟨rfl, _, Eq.trans (World.drewN_drewN _ _ _) (congrArg (World.drewN _) (Nat.add_assoc _ _ _))⟩)))
                repeat (go_quiet (first | (go_at_call 30; (with_reducible refine (spec_OrderCompare.calls k1 a0 _ _ ((rd_T36 l1 (ji4)).f0) _ _ ((rd_T36 l1 x5_1).f0) t147 _ ?side1 ?side2 ?side3 ?side4 A8.out).mono ?_); (case side1 => repeat (first | exact HR145_0.out | (with_reducible refine Kd.C_alloc ?_ _) | (with_reducible refine Kd.C_drewN ?_ _) | (with_reducible refine Kd.C_drew ?_))); (case side2 => exact HC145_0.out); (case side3 => repeat (first | exact HR146_0.out | (with_reducible refine Kd.C_alloc ?_ _) | (with_reducible refine Kd.C_drewN ?_ _) | (with_reducible refine Kd.C_drew ?_))); (case side4 => exact HC146_0.out); rintro e w' ⟨rfl, ⟨nd, rfl⟩⟩; (try first | exact ⟨rfl, _, World.drewN_drewN _ _ _⟩ | exact ⟨rfl, _, Eq.trans (World.drewN_drewN _ _ _) (congrArg (World.drewN _) (Nat.add_assoc _ _ _))⟩))); try go_wp2_with (first | (go_at_call 30; (with_reducible refine (spec_OrderCompare.calls k1 a0 _ _ ((rd_T36 l1 (ji4)).f0) _ _ ((rd_T36 l1 x5_1).f0) t147 _ ?side1 ?side2 ?side3 ?side4 A8.out).mono ?_); (case side1 => repeat (first | exact HR145_0.out | (with_reducible refine Kd.C_alloc ?_ _) | (with_reducible refine Kd.C_drewN ?_ _) | (with_reducible refine Kd.C_drew ?_))); (case side2 => exact HC145_0.out); (case side3 => repeat (first | exact HR146_0.out | (with_reducible refine Kd.C_alloc ?_ _) | (with_reducible refine Kd.C_drewN ?_ _) | (with_reducible refine Kd.C_drew ?_))); (case side4 => exact HC146_0.out); rintro e w' ⟨rfl, ⟨nd, rfl⟩⟩; (try first | exact ⟨rfl, _, World.drewN_drewN _ _ _⟩ | exact ⟨rfl, _, Eq.trans (World.drewN_drewN _ _ _) (congrArg (World.drewN _) (Nat.add_assoc _ _ _))⟩))))
                go_ret
                exact ⟨by first | rfl | (simp; done) | (simp only [← hji4] <;> (first | rfl | simp)) | (simp [*]; done), by repeat (first | exact Drawn0.refl _ | apply Drawn0.step)⟩
              · rw [if_neg c9] at H
                have c9b0 : decide (0 ≤ t147) = false := decide_eq_false c9
                clear c9
                have H' := Aside0.mk H
                clear H
                have p145 : 0 ≤ ((ji4) : Int) := of_decide_eq_true (by first | (with_reducible assumption) | assumption)
                have q145 : (ji4) < (l1.length : Int) := of_decide_eq_true (by first | (with_reducible assumption) | assumption)
                obtain ⟨ad145, A145_0, c145_0, A145_1, c145_1, e145, hx145_0, hx145_1, hl145_0, hi145_0, hl145_1, hi145_1⟩ := at_T36 HR1.out (ji4) p145 q145
                cases e145
                have HR145_0 := Aside0.mk hi145_0
                have HC145_0 := Aside0.mk hl145_0
                clear hi145_0 hl145_0
                have HR145_1 := Aside0.mk hi145_1
                have HC145_1 := Aside0.mk hl145_1
                clear hi145_1 hl145_1
                replace p145 := eq_true p145
                replace q145 := eq_true q145
                have p146 : 0 ≤ (x5_1 : Int) := of_decide_eq_true (by first | (with_reducible assumption) | assumption)
                have q146 : x5_1 < (l1.length : Int) := of_decide_eq_true (by first | (with_reducible assumption) | assumption)
                obtain ⟨ad146, A146_0, c146_0, A146_1, c146_1, e146, hx146_0, hx146_1, hl146_0, hi146_0, hl146_1, hi146_1⟩ := at_T36 HR1.out x5_1 p146 q146
                obtain rfl : ad145 = ad146 := (by injection e146)
                have HR146_0 := Aside0.mk hi146_0
                have HC146_0 := Aside0.mk hl146_0
                clear hi146_0 hl146_0
                have HR146_1 := Aside0.mk hi146_1
                have HC146_1 := Aside0.mk hl146_1
                clear hi146_1 hl146_1
                replace p146 := eq_true p146
                replace q146 := eq_true q146
                go_wp2_with (first | (go_at_call 30; (with_reducible refine (spec_OrderCompare.calls k1 a0 _ _ ((rd_T36 l1 (ji4)).f0) _ _ ((rd_T36 l1 x5_1).f0) t147 _ ?side1 ?side2 ?side3 ?side4 A8.out).mono ?_); (case side1 => repeat (first | exact HR145_0.out | (with_reducible refine Kd.C_alloc ?_ _) | (with_reducible refine Kd.C_drewN ?_ _) | (with_reducible refine Kd.C_drew ?_))); (case side2 => exact HC145_0.out); (case side3 => repeat (first | exact HR146_0.out | (with_reducible refine Kd.C_alloc ?_ _) | (with_reducible refine Kd.C_drewN ?_ _) | (with_reducible refine Kd.C_drew ?_))); (case side4 => exact HC146_0.out); rintro e w' ⟨rfl, ⟨nd, rfl⟩⟩; (try first | exact ⟨rfl, _, World.drewN_drewN _ _ _⟩ | exact ⟨rfl, _, Eq.trans (World.drewN_drewN _ _ _) (congrArg (World.drewN _) (Nat.add_assoc _ _ _))⟩)))
                repeat (go_quiet (first | (go_at_call 30; (with_reducible refine (spec_OrderCompare.calls k1 a0 _ _ ((rd_T36 l1 (ji4)).f0) _ _ ((rd_T36 l1 x5_1).f0) t147 _ ?side1 ?side2 ?side3 ?side4 A8.out).mono ?_); (case side1 => repeat (first | exact HR145_0.out | (with_reducible refine Kd.C_alloc ?_ _) | (with_reducible refine Kd.C_drewN ?_ _) | (with_reducible refine Kd.C_drew ?_))); (case side2 => exact HC145_0.out); (case side3 => repeat (first | exact HR146_0.out | (with_reducible refine Kd.C_alloc ?_ _) | (with_reducible refine Kd.C_drewN ?_ _) | (with_reducible refine Kd.C_drew ?_))); (case side4 => exact HC146_0.out); rintro e w' ⟨rfl, ⟨nd, rfl⟩⟩; (try first | exact ⟨rfl, _, World.drewN_drewN _ _ _⟩ | exact ⟨rfl, _, Eq.trans (World.drewN_drewN _ _ _) (congrArg (World.drewN _) (Nat.add_assoc _ _ _))⟩))); try go_wp2_with (first | (go_at_call 30; (with_reducible refine (spec_OrderCompare.calls k1 a0 _ _ ((rd_T36 l1 (ji4)).f0) _ _ ((rd_T36 l1 x5_1).f0) t147 _ ?side1 ?side2 ?side3 ?side4 A8.out).mono ?_); (case side1 => repeat (first | exact HR145_0.out | (with_reducible refine Kd.C_alloc ?_ _) | (with_reducible refine Kd.C_drewN ?_ _) | (with_reducible refine Kd.C_drew ?_))); (case side2 => exact HC145_0.out); (case side3 => repeat (first | exact HR146_0.out | (with_reducible refine Kd.C_alloc ?_ _) | (with_reducible refine Kd.C_drewN ?_ _) | (with_reducible refine Kd.C_drew ?_))); (case side4 => exact HC146_0.out); rintro e w' ⟨rfl, ⟨nd, rfl⟩⟩; (try first | exact ⟨rfl, _, World.drewN_drewN _ _ _⟩ | exact ⟨rfl, _, Eq.trans (World.drewN_drewN _ _ _) (congrArg (World.drewN _) (Nat.add_assoc _ _ _))⟩))))
                go_roundg k1
                case measure => have := HK1.out; omega
                case rel => exact ⟨(wrap64 (x5_1 + 1)), (by first | rfl | (simp; done) | (simp [*]; done)), H', ⟨by have := HK1.out; omega⟩, by repeat (first | exact Drawn0.refl _ | apply Drawn0.step)⟩
            · rw [if_neg c7] at H
              exact absurd H (by simp)
          · rw [if_neg c6] at H
            exact absurd H (by simp)
        · rw [if_neg c5] at H
          exact absurd H (by simp)
      · rw [if_neg c3] at H
        have c3b0 : decide (x5_1 < (l1.length : Int)) = false := decide_eq_false c3
        clear c3
        obtain rfl := Option.some.inj H
        go_wp2
        repeat (go_quiet (fail); try go_wp2)
        go_ret
        exact ⟨by first | rfl | (simp; done) | (simp [*]; done), by repeat (first | exact Drawn0.refl _ | apply Drawn0.step)⟩

end Go.Proofs.YtdkkkikcigjlhaaGreatDoor.PFnMemMap

namespace Go.Proofs.YtdkkkikcigjlhaaGreatDoor.Md
open Go.RowKit Go.Proofs.YtdkkkikcigjlhaaGreatDoor.Con Go.Proofs.YtdkkkikcigjlhaaGreatDoor.Run Go.Proofs.YtdkkkikcigjlhaaGreatDoorW.PrintWords Go.Proofs.YtdkkkikcigjlhaaGreatDoorW.PrintMore Go.Proofs.YtdkkkikcigjlhaaGreatDoor.Cmp Go.Sort Go.RwLone Go.Proofs.YtdkkkikcigjlhaaGreatDoor.PFnMemMap

theorem s_rd44 (l : List S44) (i : Nat) (h : i < l.length) : rd_T44 l (i : Int) = l.getD i (⟨[], []⟩ : S44) := by
  simp [rd_T44, List.getD_eq_getElem?_getD, h]
theorem s_rd36 (l : List S36) (i : Nat) (h : i < l.length) : rd_T36 l (i : Int) = l.getD i (⟨[], []⟩ : S36) := by
  simp [rd_T36, List.getD_eq_getElem?_getD, h]
theorem s_rd104 (l : List S104) (i : Nat) (h : i < l.length) : rd_T104 l (i : Int) = l.getD i (⟨0, []⟩ : S104) := by
  simp [rd_T104, List.getD_eq_getElem?_getD, h]
theorem s_mem {α : Type} {l : List α} {i : Nat} (h : i < l.length) (z : α) : l.getD i z ∈ l := by
  rw [List.getD_eq_getElem?_getD, List.getElem?_eq_getElem h]
  exact List.getElem_mem _
theorem s_drop {α : Type} {l : List α} {i : Nat} (h : i < l.length) (z : α) : l.drop i = l.getD i z :: l.drop (i + 1) := by
  rw [List.drop_eq_getElem_cons h]
  simp [List.getD_eq_getElem?_getD, List.getElem?_eq_getElem h]
theorem s_up {i n : Nat} (h : i < n) (hn : n ≤ 4294967296) : wrap64 ((i : Int) + 1) = ((i + 1 : Nat) : Int) := by unfold wrap64; omega

theorem pairs_l0 (l : List S44) (hl : l.length ≤ 4294967296) (d : Nat) : ∀ i : Nat, l.length - i = d → i ≤ l.length → ∀ k, d + 1 ≤ k → laws_pairs.l0 k l (asC (l.take i)) (i : Int) = some (asC l) := by
  induction d with
  | zero =>
    intro i h1 h2 k hk
    obtain ⟨k, rfl⟩ : ∃ q, k = q + 1 := ⟨k - 1, by omega⟩
    rw [laws_pairs.l0, if_neg (by omega), List.take_of_length_le (by omega)]
  | succ d ih =>
    intro i h1 h2 k hk
    obtain ⟨k, rfl⟩ : ∃ q, k = q + 1 := ⟨k - 1, by omega⟩
    have hi : i < l.length := by omega
    have htk := sp_take hi (⟨[], []⟩ : S44)
    have hlen : (asC (l.take i)).length = i := by unfold asC; rw [List.length_map, List.length_take]; omega
    rw [laws_pairs.l0, if_pos (by omega), if_pos (by omega), if_pos (by rw [hlen]; omega), s_rd44 l i hi, s_up hi hl]
    have e : asC (l.take i) ++ [(⟨(l.getD i (⟨[], []⟩ : S44)).f0, (l.getD i (⟨[], []⟩ : S44)).f1⟩ : S36)] = asC (l.take (i + 1)) := by rw [htk]; simp [asC]
    rw [e]
    exact ih (i + 1) (by omega) (by omega) k (by omega)

def PrTold (ok : Nat → Prop) (l : List S44) (w : World) (e : Ending) (w' : World) : Prop :=
  ∃ A c, e = .returned (.slice A l.length c) ∧ l.length ≤ c ∧ Kd.F k36 w' (fun k => ok k ∨ w.heap.size ≤ k) A l.length (asC l) ∧ Below w.heap.size w w'

theorem asC_len (l : List S44) : (asC l).length = l.length := List.length_map _

theorem pairs_calls {w : World} {ok : Nat → Prop} {A : Option Addr} {c : Nat} {l : List S44} (hA : Kd.F k44 w ok A l.length l) (hc : l.length ≤ c) (hl : l.length ≤ 4294967296) :
    Calls Tryz.prog 26 #[.slice A l.length c] w fun e w' => PrTold ok l w e w' := by
  have h := pairs_l0 l hl l.length 0 (by omega) (by omega) _ (Nat.le_refl _)
  refine (laws_pairs.calls (l.length + 1) ok A c l (asC l) w (Kd.V_mk hc hA) h).mono ?_
  rintro e w' ⟨v, rfl, hN, hb⟩
  obtain ⟨A', c', rfl⟩ := Kd.N_slice hN
  have h2 := (Kd.N_reads' hN).2.1
  have h3 := Kd.N_F hN
  rw [asC_len] at h2 h3
  exact ⟨A', c', by rw [asC_len], h2, h3, hb⟩

theorem rises_l0 (o : Int) (l : List S36) (hx : ∀ x ∈ l, x.f0.length ≤ 4294967296) (hl : l.length ≤ 4294967296) (d : Nat) : ∀ m : Nat, l.length - m = d → ∀ k, d + 17179869184 + 4 ≤ k → spec_CursorRises.l0 k o l ((m + 1 : Nat) : Int) = some (risesL (cmpO o) ((kvC l).drop m)) := by
  induction d with
  | zero =>
    intro m h1 k hk
    obtain ⟨k, rfl⟩ : ∃ q, k = q + 1 := ⟨k - 1, by omega⟩
    rw [spec_CursorRises.l0, if_neg (by omega), rises_end _ _ _ (by rw [kvC_len]; omega)]
  | succ d ih =>
    intro m h1 k hk
    obtain ⟨k, rfl⟩ : ∃ q, k = q + 1 := ⟨k - 1, by omega⟩
    by_cases hlt : m + 1 < l.length
    · have hw : wrap64 (((m + 1 : Nat) : Int) - 1) = (m : Int) := by unfold wrap64; omega
      have hst := rises_step (cmpO o) (kvC l) m (by rw [kvC_len]; exact hlt)
      have e1 : ((kvC l).getD m ([], [])).1 = (l.getD m (⟨[], []⟩ : S36)).f0 := by
        simp [kvC, List.getD_eq_getElem?_getD, List.getElem?_eq_getElem (show m < l.length by omega)]
      have e2 : ((kvC l).getD (m + 1) ([], [])).1 = (l.getD (m + 1) (⟨[], []⟩ : S36)).f0 := by
        simp [kvC, List.getD_eq_getElem?_getD, List.getElem?_eq_getElem hlt]
      rw [e1, e2] at hst
      have h1' := hx _ (s_mem (show m < l.length by omega) (⟨[], []⟩ : S36))
      have h2' := hx _ (s_mem hlt (⟨[], []⟩ : S36))
      obtain ⟨v, hs, hv⟩ := sp_order o (l.getD m (⟨[], []⟩ : S36)).f0 (l.getD (m + 1) (⟨[], []⟩ : S36)).f0 h1' h2'
      rw [spec_CursorRises.l0, if_pos (by omega), hw, if_pos (by omega), if_pos (by omega), if_pos (by omega), s_rd36 l m (by omega), s_rd36 l (m + 1) hlt, hv k (by omega)]
      simp only [Option.bind_some]
      by_cases q : v ≥ 0
      · rw [if_pos q, hst, decide_eq_false (fun z => by have := hs.1.2 z; omega), Bool.false_and]
      · rw [if_neg q, hst, decide_eq_true (hs.1.1 (by omega)), Bool.true_and]
        have hw2 : wrap64 (((m + 1 : Nat) : Int) + 1) = ((m + 1 + 1 : Nat) : Int) := by unfold wrap64; omega
        rw [hw2]
        exact ih (m + 1) (by omega) k (by omega)
    · rw [spec_CursorRises.l0, if_neg (by omega), rises_end _ _ _ (by rw [kvC_len]; omega)]

theorem rises_calls {w : World} {A : Option Addr} {n c : Nat} {l : List S36} (o : Int) (hA : Kd.C k36 w A n l) (hn : l.length = n) (hc : n ≤ c) (hx : ∀ x ∈ l, x.f0.length ≤ 4294967296) (hl : n ≤ 4294967296) :
    Calls Tryz.prog 25 #[.int .i64 o, .slice A n c] w fun e w' => e = .returned (.bool (risesL (cmpO o) (kvC l))) ∧ Below w.heap.size w w' := by
  subst hn
  obtain ⟨k, h⟩ : ∃ k, spec_CursorRises.f k o l = some (risesL (cmpO o) (kvC l)) := ⟨_, rises_l0 o l hx hl l.length 0 (by omega) _ (Nat.le_refl _)⟩
  refine (spec_CursorRises.calls k o A c l _ w hA hc h).mono ?_
  rintro e w' ⟨rfl, hw⟩
  exact ⟨rfl, hw.below⟩

theorem fits19_l0 (l : List S44) (hl : l.length ≤ 2147483647) (d : Nat) : ∀ i : Nat, l.length - i = d → i ≤ l.length → ∀ k, d + 1 ≤ k → ∃ b, laws_zzFits19.l0 k l (l.length : Int) (i : Int) = some b ∧ (b = true → ∀ x ∈ l.drop i, x.f0.length ≤ 2147483647 ∧ x.f1.length ≤ 2147483647) := by
  induction d with
  | zero =>
    intro i h1 h2 k hk
    obtain ⟨k, rfl⟩ : ∃ q, k = q + 1 := ⟨k - 1, by omega⟩
    refine ⟨true, by rw [laws_zzFits19.l0, if_neg (by omega)], fun _ x hx => ?_⟩
    rw [List.drop_of_length_le (by omega)] at hx
    cases hx
  | succ d ih =>
    intro i h1 h2 k hk
    obtain ⟨k, rfl⟩ : ∃ q, k = q + 1 := ⟨k - 1, by omega⟩
    have hi : i < l.length := by omega
    rw [laws_zzFits19.l0, if_pos (by omega), if_pos (by omega), if_pos (by omega), s_rd44 l i hi, s_drop hi (⟨[], []⟩ : S44), s_up hi (by omega)]
    unfold laws_zzFits20.f
    by_cases q1 : (((l.getD i (⟨[], []⟩ : S44)).f0.length : Int)) > 2147483647
    · rw [if_pos q1]
      exact ⟨false, rfl, fun h => by cases h⟩
    · rw [if_neg q1]
      by_cases q2 : (((l.getD i (⟨[], []⟩ : S44)).f1.length : Int)) > 2147483647
      · rw [if_pos q2]
        exact ⟨false, rfl, fun h => by cases h⟩
      · rw [if_neg q2]
        obtain ⟨b, hb1, hb2⟩ := ih (i + 1) (by omega) (by omega) k (by omega)
        refine ⟨b, by simp only [Option.bind_some, if_true]; exact hb1, fun h x hx => ?_⟩
        rcases List.mem_cons.1 hx with rfl | hx
        · omega
        · exact hb2 h x hx

def FitTold (P : Prop) (w : World) (e : Ending) (w' : World) : Prop := ∃ b, e = .returned (.bool b) ∧ Hid (b = true → P) ∧ Below w.heap.size w w'

theorem fits19_calls {w : World} {A : Option Addr} {c : Nat} {l : List S44} (hA : Kd.C k44 w A l.length l) (hc : l.length ≤ c) :
    Calls Tryz.prog 21 #[.slice A l.length c] w fun e w' => FitTold (l.length ≤ 2147483647 ∧ ∀ x ∈ l, x.f0.length ≤ 2147483647 ∧ x.f1.length ≤ 2147483647) w e w' := by
  obtain ⟨k, b, h, hb⟩ : ∃ k b, laws_zzFits19.f k l = some b ∧ (b = true → l.length ≤ 2147483647 ∧ ∀ x ∈ l, x.f0.length ≤ 2147483647 ∧ x.f1.length ≤ 2147483647) := by
    by_cases q : (l.length : Int) > 2147483647
    · exact ⟨0, false, by unfold laws_zzFits19.f; rw [if_pos q], fun h => by cases h⟩
    · obtain ⟨b, h1, h2⟩ := fits19_l0 l (by omega) l.length 0 (by omega) (by omega) (l.length + 1) (Nat.le_refl _)
      exact ⟨l.length + 1, b, by unfold laws_zzFits19.f; rw [if_neg q]; exact h1, fun h => ⟨by omega, fun x hx => h2 h x (by rw [List.drop_zero]; exact hx)⟩⟩
  refine (laws_zzFits19.calls k A c l b w hA hc h).mono ?_
  rintro e w' ⟨rfl, hw⟩
  exact ⟨b, rfl, Lib.hid hb, hw⟩

theorem fits22_l0 (l : List S104) (hl : l.length ≤ 2147483647) (d : Nat) : ∀ i : Nat, l.length - i = d → i ≤ l.length → ∀ k, d + 1 ≤ k → ∃ b, laws_zzFits22.l0 k l (l.length : Int) (i : Int) = some b ∧ (b = true → ∀ x ∈ l.drop i, x.f1.length ≤ 2147483647) := by
  induction d with
  | zero =>
    intro i h1 h2 k hk
    obtain ⟨k, rfl⟩ : ∃ q, k = q + 1 := ⟨k - 1, by omega⟩
    refine ⟨true, by rw [laws_zzFits22.l0, if_neg (by omega)], fun _ x hx => ?_⟩
    rw [List.drop_of_length_le (by omega)] at hx
    cases hx
  | succ d ih =>
    intro i h1 h2 k hk
    obtain ⟨k, rfl⟩ : ∃ q, k = q + 1 := ⟨k - 1, by omega⟩
    have hi : i < l.length := by omega
    rw [laws_zzFits22.l0, if_pos (by omega), if_pos (by omega), if_pos (by omega), s_rd104 l i hi, s_drop hi (⟨0, []⟩ : S104), s_up hi (by omega)]
    unfold laws_zzFits23.f
    by_cases q1 : (((l.getD i (⟨0, []⟩ : S104)).f1.length : Int)) > 2147483647
    · rw [if_pos q1]
      exact ⟨false, rfl, fun h => by cases h⟩
    · rw [if_neg q1]
      obtain ⟨b, hb1, hb2⟩ := ih (i + 1) (by omega) (by omega) k (by omega)
      refine ⟨b, by simp only [Option.bind_some, if_true]; exact hb1, fun h x hx => ?_⟩
      rcases List.mem_cons.1 hx with rfl | hx
      · omega
      · exact hb2 h x hx

theorem fits22_calls {w : World} {A : Option Addr} {c : Nat} {l : List S104} (hA : Kd.C k104 w A l.length l) (hc : l.length ≤ c) :
    Calls Tryz.prog 22 #[.slice A l.length c] w fun e w' => FitTold (l.length ≤ 2147483647 ∧ ∀ x ∈ l, x.f1.length ≤ 2147483647) w e w' := by
  obtain ⟨k, b, h, hb⟩ : ∃ k b, laws_zzFits22.f k l = some b ∧ (b = true → l.length ≤ 2147483647 ∧ ∀ x ∈ l, x.f1.length ≤ 2147483647) := by
    by_cases q : (l.length : Int) > 2147483647
    · exact ⟨0, false, by unfold laws_zzFits22.f; rw [if_pos q], fun h => by cases h⟩
    · obtain ⟨b, h1, h2⟩ := fits22_l0 l (by omega) l.length 0 (by omega) (by omega) (l.length + 1) (Nat.le_refl _)
      exact ⟨l.length + 1, b, by unfold laws_zzFits22.f; rw [if_neg q]; exact h1, fun h => ⟨by omega, fun x hx => h2 h x (by rw [List.drop_zero]; exact hx)⟩⟩
  refine (laws_zzFits22.calls k A c l b w hA hc h).mono ?_
  rintro e w' ⟨rfl, hw⟩
  exact ⟨b, rfl, Lib.hid hb, hw⟩

theorem one_byte {w : World} {g : Nat} {b : Int} {fr : Nat × Nat} {e : TypeId} (h : w.heap[g]? = some (.cells #[.int .u8 b] e fr)) : Kd.C (Kd.int .u8) w (some ⟨g, 0, none⟩) ([b] : List Int).length [b] := by
  refine ints_C ⟨rfl, by simp, fun _ => ⟨_, rfl, fun j hj => ?_⟩⟩
  have : j = 0 := by simp at hj; omega
  subst this
  rw [add_zero, cell_of_row w g 0 _ e fr h]
  rfl

theorem add_in (g i : Nat) : (⟨g, 0, none⟩ : Addr).add i = ⟨g, i, none⟩ := by
  unfold Addr.add
  split
  · rename_i e; subst e; rfl
  · simp

abbrev litL : List S44 := [⟨[97], [49]⟩, ⟨[98], []⟩]
abbrev litC (g : Nat) : Array Value := #[.slice (some ⟨g, 0, none⟩) 1 1, .slice (some ⟨g + 1, 0, none⟩) 1 1, .slice (some ⟨g + 1 + 1, 0, none⟩) 1 1, .slice none 0 0]
abbrev litW (w : World) : World := (((w.alloc (.cells #[.int .u8 97] 5 (1, 2))).alloc (.cells #[.int .u8 49] 5 (1, 2))).alloc (.cells #[.int .u8 98] 5 (1, 2))).alloc (.cells (litC w.heap.size) 44)

theorem lit_below (w : World) : Below w.heap.size w (litW w) ∧ (litW w).heap[w.heap.size]? = some (.cells #[.int .u8 97] 5 (1, 2)) ∧ (litW w).heap[w.heap.size + 1]? = some (.cells #[.int .u8 49] 5 (1, 2)) ∧ (litW w).heap[w.heap.size + 1 + 1]? = some (.cells #[.int .u8 98] 5 (1, 2)) ∧ (litW w).heap[w.heap.size + 1 + 1 + 1]? = some (.cells (litC w.heap.size) 44 (0, 0)) := by
  have b1 := below_alloc (Below.refl w.heap.size w) (.cells #[.int .u8 97] 5 (1, 2))
  have n1 := blk_new w (.cells #[.int .u8 97] 5 (1, 2))
  have s1 := World.size_alloc w (.cells #[.int .u8 97] 5 (1, 2))
  unfold litW
  generalize w.alloc (.cells #[.int .u8 97] 5 (1, 2)) = w1 at *
  have b2 := below_alloc (Below.refl w1.heap.size w1) (.cells #[.int .u8 49] 5 (1, 2))
  have n2 := blk_new w1 (.cells #[.int .u8 49] 5 (1, 2))
  have s2 := World.size_alloc w1 (.cells #[.int .u8 49] 5 (1, 2))
  generalize w1.alloc (.cells #[.int .u8 49] 5 (1, 2)) = w2 at *
  have b3 := below_alloc (Below.refl w2.heap.size w2) (.cells #[.int .u8 98] 5 (1, 2))
  have n3 := blk_new w2 (.cells #[.int .u8 98] 5 (1, 2))
  have s3 := World.size_alloc w2 (.cells #[.int .u8 98] 5 (1, 2))
  generalize w2.alloc (.cells #[.int .u8 98] 5 (1, 2)) = w3 at *
  have b4 := below_alloc (Below.refl w3.heap.size w3) (.cells (litC w.heap.size) 44)
  have n4 := blk_new w3 (.cells (litC w.heap.size) 44)
  generalize w3.alloc (.cells (litC w.heap.size) 44) = w4 at *
  have e1 : w1.heap.size = w.heap.size + 1 := s1
  have e2 : w2.heap.size = w.heap.size + 1 + 1 := by rw [s2, e1]
  have e3 : w3.heap.size = w.heap.size + 1 + 1 + 1 := by rw [s3, e2]
  rw [e1] at n2
  rw [e2] at n3
  rw [e3] at n4
  have b12 := b1.trans (b2.mono b1.size)
  have b13 := b12.trans (b3.mono b12.size)
  refine ⟨b13.trans (b4.mono b13.size), ?_, ?_, ?_, n4⟩
  · exact (b4.block _ (by omega)).trans ((b3.block _ (by omega)).trans ((b2.block _ (by omega)).trans n1))
  · exact (b4.block _ (by omega)).trans ((b3.block _ (by omega)).trans n2)
  · exact (b4.block _ (by omega)).trans n3

theorem lit_C {W : World} {g : Nat} (h0 : W.heap[g]? = some (.cells #[.int .u8 97] 5 (1, 2))) (h1 : W.heap[g + 1]? = some (.cells #[.int .u8 49] 5 (1, 2))) (h2 : W.heap[g + 1 + 1]? = some (.cells #[.int .u8 98] 5 (1, 2))) (h3 : W.heap[g + 1 + 1 + 1]? = some (.cells (litC g) 44 (0, 0))) :
    Kd.C k44 W (some ⟨g + 1 + 1 + 1, 0, none⟩) 2 litL := by
  refine ⟨rfl, by decide, fun _ => ⟨_, rfl, fun j p hj => ?_⟩⟩
  rcases j with _ | _ | j
  · simp only [List.getElem?_cons_zero, Option.some.injEq] at hj
    subst hj
    refine ⟨_, rfl, k44_mk W ⟨[97], [49]⟩ (c0 := 1) (by simp) (one_byte h0) (c1 := 1) (by simp) (one_byte h1), fun i u hu => ?_⟩
    have e : 0 * k44.sz + i = i := by rw [Nat.zero_mul, Nat.zero_add]
    rw [e, add_in, cell_of_row _ _ i _ _ _ h3]
    rcases i with _ | _ | i
    · simpa using hu
    · simpa using hu
    · simp at hu
  · simp only [List.getElem?_cons_succ, List.getElem?_cons_zero, Option.some.injEq] at hj
    subst hj
    refine ⟨_, rfl, k44_mk W ⟨[98], []⟩ (c0 := 1) (by simp) (one_byte h2) (A1 := none) (c1 := 0) (by simp) (Kd.F_now (Kd.F_nil _ _ (fun _ => True))), fun i u hu => ?_⟩
    have e : 1 * k44.sz + i = 2 + i := by show 1 * 2 + i = 2 + i; omega
    rw [show (0 + 1) * k44.sz + i = 2 + i from e, add_in, cell_of_row _ _ (2 + i) _ _ _ h3]
    rcases i with _ | _ | i
    · simpa using hu
    · simpa using hu
    · simp at hu
  · simp at hj

theorem lit_F (w : World) : Kd.F k44 (litW w) (fun k => w.heap.size ≤ k ∧ k < (litW w).heap.size) (some ⟨w.heap.size + 1 + 1 + 1, 0, none⟩) 2 litL := by
  obtain ⟨hb, h0, h1, h2, h3⟩ := lit_below w
  have hs := blk_lt h3
  intro W' hk
  have q : ∀ k, w.heap.size ≤ k → k < (litW w).heap.size → W'.heap[k]? = (litW w).heap[k]? := fun k h1 h2 => hk k ⟨h1, h2⟩ h2
  exact lit_C ((q _ (Nat.le_refl _) (blk_lt h0)).trans h0) ((q _ (by omega) (blk_lt h1)).trans h1) ((q _ (by omega) (blk_lt h2)).trans h2) ((q _ (by omega) hs).trans h3)

theorem mv2_F (w : World) (a b : Int) : Kd.F k104 (w.alloc (.cells #[.int .i64 a, .slice none 0 0, .int .i64 b, .slice none 0 0] 104)) (fun k => k = w.heap.size) (some ⟨w.heap.size, 0, none⟩) 2 [⟨a, []⟩, ⟨b, []⟩] := by
  have h := blk_new w (.cells #[.int .i64 a, .slice none 0 0, .int .i64 b, .slice none 0 0] 104)
  intro W' hk
  have h3 := (hk _ rfl (blk_lt h)).trans h
  refine ⟨rfl, by decide, fun _ => ⟨_, rfl, fun j p hj => ?_⟩⟩
  rcases j with _ | _ | j
  · simp only [List.getElem?_cons_zero, Option.some.injEq] at hj
    subst hj
    refine ⟨_, rfl, k104_mk W' ⟨a, []⟩ (A1 := none) (c1 := 0) (by simp) (Kd.F_now (Kd.F_nil _ _ (fun _ => True))), fun i u hu => ?_⟩
    have e : 0 * k104.sz + i = i := by rw [Nat.zero_mul, Nat.zero_add]
    rw [e, add_in, cell_of_row _ _ i _ _ _ h3]
    rcases i with _ | _ | i
    · simpa using hu
    · simpa using hu
    · simp at hu
  · simp only [List.getElem?_cons_succ, List.getElem?_cons_zero, Option.some.injEq] at hj
    subst hj
    refine ⟨_, rfl, k104_mk W' ⟨b, []⟩ (A1 := none) (c1 := 0) (by simp) (Kd.F_now (Kd.F_nil _ _ (fun _ => True))), fun i u hu => ?_⟩
    have e : (0 + 1) * k104.sz + i = 2 + i := by show (0 + 1) * 2 + i = 2 + i; omega
    rw [e, add_in, cell_of_row _ _ (2 + i) _ _ _ h3]
    rcases i with _ | _ | i
    · simpa using hu
    · simpa using hu
    · simp at hu
  · simp at hj

theorem mv1_F (w : World) (a : Int) : Kd.F k104 (w.alloc (.cells #[.int .i64 a, .slice none 0 0] 104)) (fun k => k = w.heap.size) (some ⟨w.heap.size, 0, none⟩) 1 [⟨a, []⟩] := by
  have h := blk_new w (.cells #[.int .i64 a, .slice none 0 0] 104)
  intro W' hk
  have h3 := (hk _ rfl (blk_lt h)).trans h
  refine ⟨rfl, by decide, fun _ => ⟨_, rfl, fun j p hj => ?_⟩⟩
  rcases j with _ | j
  · simp only [List.getElem?_cons_zero, Option.some.injEq] at hj
    subst hj
    refine ⟨_, rfl, k104_mk W' ⟨a, []⟩ (A1 := none) (c1 := 0) (by simp) (Kd.F_now (Kd.F_nil _ _ (fun _ => True))), fun i u hu => ?_⟩
    have e : 0 * k104.sz + i = i := by rw [Nat.zero_mul, Nat.zero_add]
    rw [e, add_in, cell_of_row _ _ i _ _ _ h3]
    rcases i with _ | _ | i
    · simpa using hu
    · simpa using hu
    · simp at hu
  · simp at hj

end Go.Proofs.YtdkkkikcigjlhaaGreatDoor.Md
