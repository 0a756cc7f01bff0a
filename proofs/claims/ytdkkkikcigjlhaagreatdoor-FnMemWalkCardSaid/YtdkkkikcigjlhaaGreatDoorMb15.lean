/- Walks of functions of the laws and of the reference: a cut of what print.sh prints for FnArrayWalk. The laws' small functions, as printed: what they tell. Literals of the laws' fixed call: pairs, moves. A memory table's iterator stands on the sorted list's places: no program in sight. The memory table's iterator is a cursor on the range's pairs. The memory table's iterator is a cursor: its methods. -/
import Derived.Test.YtdkkkikcigjlhaaGreatDoorMb01
import Derived.Test.YtdkkkikcigjlhaaGreatDoorMb02
import Derived.Test.YtdkkkikcigjlhaaGreatDoorMb03
import Derived.Test.YtdkkkikcigjlhaaGreatDoorMb06
import Derived.Test.YtdkkkikcigjlhaaGreatDoorMb13
import Derived.Test.YtdkkkikcigjlhaaGreatDoorMb14
import Derived.Test.YtdkkkikcigjlhaaGreatDoorMb11
namespace Go.Proofs.YtdkkkikcigjlhaaGreatDoor.PFnMemMap
open Go.RowKit Go.Proofs.YtdkkkikcigjlhaaGreatDoorW.PrintWords Go.Proofs.YtdkkkikcigjlhaaGreatDoorW.PrintLast Go.Proofs.YtdkkkikcigjlhaaGreatDoorW.PrintMore
set_option linter.unusedVariables false
set_option linter.unusedSimpArgs false
attribute [local go_sem] max2_int min2_int max_two min_two max_three min_three max_four min_four   -- for this text's walks alone

/-! ### spec_CursorRises: function 25 -/
def spec_CursorRises.l0 : Nat → Int → List (S36) → Int → Option (Bool)
  | 0, _, _, _ => none
  | k + 1, x0, x1, x5 => if x5 < (x1.length : Int) then (if 0 ≤ (wrap64 (x5 - 1)) then (if (wrap64 (x5 - 1)) < (x1.length : Int) then (if 0 ≤ x5 then ((spec_OrderCompare.f k x0 ((rd_T36 x1 (wrap64 (x5 - 1))).f0) ((rd_T36 x1 x5).f0)).bind fun t147 => (if t147 ≥ 0 then (some false) else (spec_CursorRises.l0 k x0 x1 (wrap64 (x5 + 1))))) else (none)) else (none)) else (none)) else (some true)
def spec_CursorRises.f (k : Nat) (a0 : Int) (l1 : List (S36)) : Option (Bool) := spec_CursorRises.l0 k a0 l1 1
set_option maxHeartbeats 8000000 in
set_option maxRecDepth 100000 in
theorem spec_CursorRises.calls (k : Nat) (a0 : Int) (A1 : Option Addr) (c1 : Nat) (l1 : List (S36)) (r : Bool) (w : World) (hr1 : Kd.C k36 w A1 l1.length l1) (hc1 : l1.length ≤ c1) (h : spec_CursorRises.f k a0 l1 = some r) :
    Calls Tryz.prog 25 #[.int .i64 a0, .slice A1 l1.length c1] w fun e w' => e = .returned (.bool r) ∧ Drawn0 w w' := by
  have HR1 := Aside0.mk hr1
  have HC1 := Aside0.mk hc1
  clear hr1 hc1
  have H : (spec_CursorRises.l0 k a0 l1 1) = some r := h
  clear h
  have H' := Aside0.mk H
  clear H
  go_enter Tryz.func25, Tryz.ntmps25
  go_wp2
  repeat (go_quiet (fail); try go_wp2)
  go_loopg [5] k (fun kq v5 w' => ∃ (x5_1 : Int), v5 = .int .i64 x5_1 ∧ Aside0 (spec_CursorRises.l0 kq a0 l1 x5_1 = some r) ∧ Aside0 (kq ≤ k) ∧ Drawn0 w w')
  case atStart => exact ⟨(1), (by first | rfl | (simp; done) | (simp [*]; done)), H', ⟨Nat.le_refl _⟩, by repeat (first | exact Drawn0.refl _ | apply Drawn0.step)⟩
  case round =>
    clear H'
    try clear c1
    try clear c2
    try clear p2
    obtain ⟨x5_1, rfl, HA, HK1, ⟨m1, rfl⟩⟩ := hrel
    cases gk with
    | zero => exact absurd HA.out (by simp [spec_CursorRises.l0])
    | succ k1 =>
      have H := HA.out
      clear HA
      simp only [spec_CursorRises.l0] at H
      by_cases c3 : x5_1 < (l1.length : Int)
      · rw [if_pos c3] at H
        have c3b0 : decide (x5_1 < (l1.length : Int)) = true := decide_eq_true c3
        clear c3
        obtain ⟨ji4, hji4⟩ : ∃ j_ : Int, (wrap64 (x5_1 - 1)) = j_ := ⟨_, rfl⟩
        replace H : (if 0 ≤ (ji4) then (if (ji4) < (l1.length : Int) then (if 0 ≤ x5_1 then ((spec_OrderCompare.f k1 a0 ((rd_T36 l1 (ji4)).f0) ((rd_T36 l1 x5_1).f0)).bind fun t147 => (if t147 ≥ 0 then (some false) else (spec_CursorRises.l0 k1 a0 l1 (wrap64 (x5_1 + 1))))) else (none)) else (none)) else (none)) = some r := by first | (rw [hji4] at H; exact H) | (simp only [hji4] at H ⊢; exact H)
        have hji4w : (IntKind.i64.wrap (x5_1 - 1)) = ji4 := (i64_w _).trans hji4
        by_cases c5 : 0 ≤ (ji4)
        · rw [if_pos c5] at H
          have c5b0 : decide (0 ≤ (ji4)) = true := decide_eq_true c5
          clear c5
          by_cases c6 : (ji4) < (l1.length : Int)
          · rw [if_pos c6] at H
            have c6b0 : decide ((ji4) < (l1.length : Int)) = true := decide_eq_true c6
            clear c6
            by_cases c7 : 0 ≤ x5_1
            · rw [if_pos c7] at H
              have c7b0 : decide (0 ≤ x5_1) = true := decide_eq_true c7
              clear c7
              replace H := Option.bind_eq_some_iff.mp H
              obtain ⟨t147, A80, H⟩ := H
              replace H : (if t147 ≥ 0 then (some false) else (spec_CursorRises.l0 k1 a0 l1 (wrap64 (x5_1 + 1)))) = some r := H
              have A8 := Aside0.mk A80
              clear A80
              by_cases c9 : t147 ≥ 0
              · rw [if_pos c9] at H
                have c9b0 : decide (0 ≤ t147) = true := decide_eq_true c9
                clear c9
                obtain rfl := Option.some.inj H
                have p145 : 0 ≤ ((ji4) : Int) := of_decide_eq_true (by first | (with_reducible assumption) | assumption)
                have q145 : (ji4) < (l1.length : Int) := of_decide_eq_true (by first | (with_reducible assumption) | assumption)
                obtain ⟨ad145, A145_0, c145_0, A145_1, c145_1, e145, hx145_0, hx145_1, hl145_0, hi145_0, hl145_1, hi145_1⟩ := at_T36 HR1.out (ji4) p145 q145
                cases e145
                have HR145_0 := Aside0.mk hi145_0
                have HC145_0 := Aside0.mk hl145_0
                clear hi145_0 hl145_0
                have HR145_1 := Aside0.mk hi145_1
                have HC145_1 := Aside0.mk hl145_1
                clear hi145_1 hl145_1
                replace p145 := eq_true p145
                replace q145 := eq_true q145
                have p146 : 0 ≤ (x5_1 : Int) := of_decide_eq_true (by first | (with_reducible assumption) | assumption)
                have q146 : x5_1 < (l1.length : Int) := of_decide_eq_true (by first | (with_reducible assumption) | assumption)
                obtain ⟨ad146, A146_0, c146_0, A146_1, c146_1, e146, hx146_0, hx146_1, hl146_0, hi146_0, hl146_1, hi146_1⟩ := at_T36 HR1.out x5_1 p146 q146
                obtain rfl : ad145 = ad146 := (by injection e146)
                have HR146_0 := Aside0.mk hi146_0
                have HC146_0 := Aside0.mk hl146_0
                clear hi146_0 hl146_0
                have HR146_1 := Aside0.mk hi146_1
                have HC146_1 := Aside0.mk hl146_1
                clear hi146_1 hl146_1
                replace p146 := eq_true p146
                replace q146 := eq_true q146
                go_wp2_with (first | (go_at_call 30; (with_reducible refine (spec_OrderCompare.calls k1 a0 _ _ ((rd_T36 l1 (ji4)).f0) _ _ ((rd_T36 l1 x5_1).f0) t147 _ ?side1 ?side2 ?side3 ?side4 A8.out).mono ?_); (case side1 => repeat (first | exact HR145_0.out | (with_reducible refine Kd.C_alloc ?_ _) | (with_reducible refine Kd.C_drewN ?_ _) | (with_reducible refine Kd.C_drew ?_))); (case side2 => exact HC145_0.out); (case side3 => repeat (first | exact HR146_0.out | (with_reducible refine Kd.C_alloc ?_ _) | (with_reducible refine Kd.C_drewN ?_ _) | (with_reducible refine Kd.C_drew ?_))); (case side4 => exact HC146_0.out); rintro e w' ⟨rfl, ⟨nd, rfl⟩⟩; (try first | exact ⟨rfl, _, World.drewN_drewN _ _ _⟩ | exact ⟨rfl, _, Eq.trans (World.drewN_drewN _ _ _) (congrArg (World.drewN _) (Nat.add_assoc _ _ _))⟩)))
                repeat (go_quiet (first | (go_at_call 30; (with_reducible refine (spec_OrderCompare.calls k1 a0 _ _ ((rd_T36 l1 (ji4)).f0) _ _ ((rd_T36 l1 x5_1).f0) t147 _ ?side1 ?side2 ?side3 ?side4 A8.out).mono ?_); (case side1 => repeat (first | exact HR145_0.out | (with_reducible refine Kd.C_alloc ?_ _) | (with_reducible refine Kd.C_drewN ?_ _) | (with_reducible refine Kd.C_drew ?_))); (case side2 => exact HC145_0.out); (case side3 => repeat (first | exact HR146_0.out | (with_reducible refine Kd.C_alloc ?_ _) | (with_reducible refine Kd.C_drewN ?_ _) | (with_reducible refine Kd.C_drew ?_))); (case side4 => exact HC146_0.out); rintro e w' ⟨rfl, ⟨nd, rfl⟩⟩; (try first | exact ⟨rfl, _, World.drewN_drewN _ _ _⟩ | exact ⟨rfl, _, Eq.trans (World.drewN_drewN _ _ _) (congrArg (World.drewN _) (Nat.add_assoc _ _ _))⟩))); try go_wp2_with (first | (go_at_call 30; (with_reducible refine (spec_OrderCompare.calls k1 a0 _ _ ((rd_T36 l1 (ji4)).f0) _ _ ((rd_T36 l1 x5_1).f0) t147 _ ?side1 ?side2 ?side3 ?side4 A8.out).mono ?_); (case side1 => repeat (first | exact HR145_0.out | (with_reducible refine Kd.C_alloc ?_ _) | (with_reducible refine Kd.C_drewN ?_ _) | (with_reducible refine Kd.C_drew ?_))); (case side2 => exact HC145_0.out); (case side3 => repeat (first | exact HR146_0.out | (with_reducible refine Kd.C_alloc ?_ _) | (with_reducible refine Kd.C_drewN ?_ _) | (with_reducible refine Kd.C_drew ?_))); (case side4 => exact HC146_0.out); rintro e w' ⟨rfl, ⟨nd, rfl⟩⟩; (try first | exact ⟨rfl, _, World.drewN_drewN _ _ _⟩ | exact ⟨rfl, _, Eq.trans (World.drewN_drewN _ _ _) (congrArg (World.drewN _) (Nat.add_assoc _ _ _))⟩))))
                go_ret
                exact ⟨by first | rfl | (simp; done) | (simp only [← hji4] <;> (first | rfl | simp)) | (simp [*]; done), by repeat (first | exact Drawn0.refl _ | apply Drawn0.step)⟩
              · rw [if_neg c9] at H
                have c9b0 : decide (0 ≤ t147) = false := decide_eq_false c9
                clear c9
                have H' := Aside0.mk H
                clear H
                have p145 : 0 ≤ ((ji4) : Int) := of_decide_eq_true (by first | (with_reducible assumption) | assumption)
                have q145 : (ji4) < (l1.length : Int) := of_decide_eq_true (by first | (with_reducible assumption) | assumption)
                obtain ⟨ad145, A145_0, c145_0, A145_1, c145_1, e145, hx145_0, hx145_1, hl145_0, hi145_0, hl145_1, hi145_1⟩ := at_T36 HR1.out (ji4) p145 q145
                cases e145
                have HR145_0 := Aside0.mk hi145_0
                have HC145_0 := Aside0.mk hl145_0
                clear hi145_0 hl145_0
                have HR145_1 := Aside0.mk hi145_1
                have HC145_1 := Aside0.mk hl145_1
                clear hi145_1 hl145_1
                replace p145 := eq_true p145
                replace q145 := eq_true q145
                have p146 : 0 ≤ (x5_1 : Int) := of_decide_eq_true (by first | (with_reducible assumption) | assumption)
                have q146 : x5_1 < (l1.length : Int) := of_decide_eq_true (by first | (with_reducible assumption) | assumption)
                obtain ⟨ad146, A146_0, c146_0, A146_1, c146_1, e146, hx146_0, hx146_1, hl146_0, hi146_0, hl146_1, hi146_1⟩ := at_T36 HR1.out x5_1 p146 q146
                obtain rfl : ad145 = ad146 := (by injection e146)
                have HR146_0 := Aside0.mk hi146_0
                have HC146_0 := Aside0.mk hl146_0
                clear hi146_0 hl146_0
                have HR146_1 := Aside0.mk hi146_1
                have HC146_1 := Aside0.mk hl146_1
                clear hi146_1 hl146_1
                replace p146 := eq_true p146
                replace q146 := eq_true q146
                go_wp2_with (first | (go_at_call 30; (with_reducible refine (spec_OrderCompare.calls k1 a0 _ _ ((rd_T36 l1 (ji4)).f0) _ _ ((rd_T36 l1 x5_1).f0) t147 _ ?side1 ?side2 ?side3 ?side4 A8.out).mono ?_); (case side1 => repeat (first | exact HR145_0.out | (with_reducible refine Kd.C_alloc ?_ _) | (with_reducible refine Kd.C_drewN ?_ _) | (with_reducible refine Kd.C_drew ?_))); (case side2 => exact HC145_0.out); (case side3 => repeat (first | exact HR146_0.out | (with_reducible refine Kd.C_alloc ?_ _) | (with_reducible refine Kd.C_drewN ?_ _) | (with_reducible refine Kd.C_drew ?_))); (case side4 => exact HC146_0.out); rintro e w' ⟨rfl, ⟨nd, rfl⟩⟩; (try first | exact ⟨rfl, _, World.drewN_drewN _ _ _⟩ | exact ⟨rfl, _, Eq.trans (World.drewN_drewN _ _ _) (congrArg (World.drewN _) (Nat.add_assoc _ _ _))⟩)))
                repeat (go_quiet (first | (go_at_call 30; (with_reducible refine (spec_OrderCompare.calls k1 a0 _ _ ((rd_T36 l1 (ji4)).f0) _ _ ((rd_T36 l1 x5_1).f0) t147 _ ?side1 ?side2 ?side3 ?side4 A8.out).mono ?_); (case side1 => repeat (first | exact HR145_0.out | (with_reducible refine Kd.C_alloc ?_ _) | (with_reducible refine Kd.C_drewN ?_ _) | (with_reducible refine Kd.C_drew ?_))); (case side2 => exact HC145_0.out); (case side3 => repeat (first | exact HR146_0.out | (with_reducible refine Kd.C_alloc ?_ _) | (with_reducible refine Kd.C_drewN ?_ _) | (with_reducible refine Kd.C_drew ?_))); (case side4 => exact HC146_0.out); rintro e w' ⟨rfl, ⟨nd, rfl⟩⟩; (try first | exact ⟨rfl, _, World.drewN_drewN _ _ _⟩ | exact ⟨rfl, _, Eq.trans (World.drewN_drewN _ _ _) (congrArg (World.drewN _) (Nat.add_assoc _ _ _))⟩))); try go_wp2_with (first | (go_at_call 30; (with_reducible refine (spec_OrderCompare.calls k1 a0 _ _ ((rd_T36 l1 (ji4)).f0) _ _ ((rd_T36 l1 x5_1).f0) t147 _ ?side1 ?side2 ?side3 ?side4 A8.out).mono ?_); (case side1 => repeat (first | exact HR145_0.out | (with_reducible refine Kd.C_alloc ?_ _) | (with_reducible refine Kd.C_drewN ?_ _) | (with_reducible refine Kd.C_drew ?_))); (case side2 => exact HC145_0.out); (case side3 => repeat (first | exact HR146_0.out | (with_reducible refine Kd.C_alloc ?_ _) | (with_reducible refine Kd.C_drewN ?_ _) | (with_reducible refine Kd.C_drew ?_))); (case side4 => exact HC146_0.out); rintro e w' ⟨rfl, ⟨nd, rfl⟩⟩; (try first | exact ⟨rfl, _, World.drewN_drewN _ _ _⟩ | exact ⟨rfl, _, Eq.trans (World.drewN_drewN _ _ _) (congrArg (World.drewN _) (Nat.add_assoc _ _ _))⟩))))
                go_roundg k1
                case measure => have := HK1.out; omega
                case rel => exact ⟨(wrap64 (x5_1 + 1)), (by first | rfl | (simp; done) | (simp [*]; done)), H', ⟨by have := HK1.out; omega⟩, by repeat (first | exact Drawn0.refl _ | apply Drawn0.step)⟩
            · rw [if_neg c7] at H
              exact absurd H (by simp)
          · rw [if_neg c6] at H
            exact absurd H (by simp)
        · rw [if_neg c5] at H
          exact absurd H (by simp)
      · rw [if_neg c3] at H
        have c3b0 : decide (x5_1 < (l1.length : Int)) = false := decide_eq_false c3
        clear c3
        obtain rfl := Option.some.inj H
        go_wp2
        repeat (go_quiet (fail); try go_wp2)
        go_ret
        exact ⟨by first | rfl | (simp; done) | (simp [*]; done), by repeat (first | exact Drawn0.refl _ | apply Drawn0.step)⟩

end Go.Proofs.YtdkkkikcigjlhaaGreatDoor.PFnMemMap

namespace Go.Proofs.YtdkkkikcigjlhaaGreatDoor.Md
open Go.RowKit Go.Proofs.YtdkkkikcigjlhaaGreatDoor.Con Go.Proofs.YtdkkkikcigjlhaaGreatDoor.Run Go.Proofs.YtdkkkikcigjlhaaGreatDoorW.PrintWords Go.Proofs.YtdkkkikcigjlhaaGreatDoorW.PrintMore Go.Proofs.YtdkkkikcigjlhaaGreatDoor.Cmp Go.Sort Go.RwLone Go.Proofs.YtdkkkikcigjlhaaGreatDoor.PFnMemMap
set_option linter.unusedVariables false
set_option linter.unusedSimpArgs false

theorem s_rd44 (l : List S44) (i : Nat) (h : i < l.length) : rd_T44 l (i : Int) = l.getD i (⟨[], []⟩ : S44) := by
  simp [rd_T44, List.getD_eq_getElem?_getD, h]
theorem s_rd36 (l : List S36) (i : Nat) (h : i < l.length) : rd_T36 l (i : Int) = l.getD i (⟨[], []⟩ : S36) := by
  simp [rd_T36, List.getD_eq_getElem?_getD, h]
theorem s_rd104 (l : List S104) (i : Nat) (h : i < l.length) : rd_T104 l (i : Int) = l.getD i (⟨0, []⟩ : S104) := by
  simp [rd_T104, List.getD_eq_getElem?_getD, h]
theorem s_mem {α : Type} {l : List α} {i : Nat} (h : i < l.length) (z : α) : l.getD i z ∈ l := by
  rw [List.getD_eq_getElem?_getD, List.getElem?_eq_getElem h]
  exact List.getElem_mem _
theorem s_drop {α : Type} {l : List α} {i : Nat} (h : i < l.length) (z : α) : l.drop i = l.getD i z :: l.drop (i + 1) := by
  rw [List.drop_eq_getElem_cons h]
  simp [List.getD_eq_getElem?_getD, List.getElem?_eq_getElem h]
theorem s_up {i n : Nat} (h : i < n) (hn : n ≤ 4294967296) : wrap64 ((i : Int) + 1) = ((i + 1 : Nat) : Int) := by unfold wrap64; omega

theorem pairs_l0 (l : List S44) (hl : l.length ≤ 4294967296) (d : Nat) : ∀ i : Nat, l.length - i = d → i ≤ l.length → ∀ k, d + 1 ≤ k → laws_pairs.l0 k l (asC (l.take i)) (i : Int) = some (asC l) := by
  induction d with
  | zero =>
    intro i h1 h2 k hk
    obtain ⟨k, rfl⟩ : ∃ q, k = q + 1 := ⟨k - 1, by omega⟩
    rw [laws_pairs.l0, if_neg (by omega), List.take_of_length_le (by omega)]
  | succ d ih =>
    intro i h1 h2 k hk
    obtain ⟨k, rfl⟩ : ∃ q, k = q + 1 := ⟨k - 1, by omega⟩
    have hi : i < l.length := by omega
    have htk := sp_take hi (⟨[], []⟩ : S44)
    have hlen : (asC (l.take i)).length = i := by unfold asC; rw [List.length_map, List.length_take]; omega
    rw [laws_pairs.l0, if_pos (by omega), if_pos (by omega), if_pos (by rw [hlen]; omega), s_rd44 l i hi, s_up hi hl]
    have e : asC (l.take i) ++ [(⟨(l.getD i (⟨[], []⟩ : S44)).f0, (l.getD i (⟨[], []⟩ : S44)).f1⟩ : S36)] = asC (l.take (i + 1)) := by rw [htk]; simp [asC]
    rw [e]
    exact ih (i + 1) (by omega) (by omega) k (by omega)

/-- what pairs tells -/
def PrTold (ok : Nat → Prop) (l : List S44) (w : World) (e : Ending) (w' : World) : Prop :=
  ∃ A c, e = .returned (.slice A l.length c) ∧ l.length ≤ c ∧ Kd.F k36 w' (fun k => ok k ∨ w.heap.size ≤ k) A l.length (asC l) ∧ Below w.heap.size w w'

theorem asC_len (l : List S44) : (asC l).length = l.length := List.length_map _

theorem pairs_calls {w : World} {ok : Nat → Prop} {A : Option Addr} {c : Nat} {l : List S44} (hA : Kd.F k44 w ok A l.length l) (hc : l.length ≤ c) (hl : l.length ≤ 4294967296) :
    Calls Tryz.prog 26 #[.slice A l.length c] w fun e w' => PrTold ok l w e w' := by
  have h := pairs_l0 l hl l.length 0 (by omega) (by omega) _ (Nat.le_refl _)
  refine (laws_pairs.calls (l.length + 1) ok A c l (asC l) w (Kd.V_mk hc hA) h).mono ?_
  rintro e w' ⟨v, rfl, hN, hb⟩
  obtain ⟨A', c', rfl⟩ := Kd.N_slice hN
  have h2 := (Kd.N_reads' hN).2.1
  have h3 := Kd.N_F hN
  rw [asC_len] at h2 h3
  exact ⟨A', c', by rw [asC_len], h2, h3, hb⟩

theorem rises_l0 (o : Int) (l : List S36) (hx : ∀ x ∈ l, x.f0.length ≤ 4294967296) (hl : l.length ≤ 4294967296) (d : Nat) : ∀ m : Nat, l.length - m = d → ∀ k, d + 17179869184 + 4 ≤ k → spec_CursorRises.l0 k o l ((m + 1 : Nat) : Int) = some (risesL (cmpO o) ((kvC l).drop m)) := by
  induction d with
  | zero =>
    intro m h1 k hk
    obtain ⟨k, rfl⟩ : ∃ q, k = q + 1 := ⟨k - 1, by omega⟩
    rw [spec_CursorRises.l0, if_neg (by omega), rises_end _ _ _ (by rw [kvC_len]; omega)]
  | succ d ih =>
    intro m h1 k hk
    obtain ⟨k, rfl⟩ : ∃ q, k = q + 1 := ⟨k - 1, by omega⟩
    by_cases hlt : m + 1 < l.length
    · have hw : wrap64 (((m + 1 : Nat) : Int) - 1) = (m : Int) := by unfold wrap64; omega
      have hst := rises_step (cmpO o) (kvC l) m (by rw [kvC_len]; exact hlt)
      have e1 : ((kvC l).getD m ([], [])).1 = (l.getD m (⟨[], []⟩ : S36)).f0 := by
        simp [kvC, List.getD_eq_getElem?_getD, List.getElem?_eq_getElem (show m < l.length by omega)]
      have e2 : ((kvC l).getD (m + 1) ([], [])).1 = (l.getD (m + 1) (⟨[], []⟩ : S36)).f0 := by
        simp [kvC, List.getD_eq_getElem?_getD, List.getElem?_eq_getElem hlt]
      rw [e1, e2] at hst
      have h1' := hx _ (s_mem (show m < l.length by omega) (⟨[], []⟩ : S36))
      have h2' := hx _ (s_mem hlt (⟨[], []⟩ : S36))
      obtain ⟨v, hs, hv⟩ := sp_order o (l.getD m (⟨[], []⟩ : S36)).f0 (l.getD (m + 1) (⟨[], []⟩ : S36)).f0 h1' h2'
      rw [spec_CursorRises.l0, if_pos (by omega), hw, if_pos (by omega), if_pos (by omega), if_pos (by omega), s_rd36 l m (by omega), s_rd36 l (m + 1) hlt, hv k (by omega)]
      simp only [Option.bind_some]
      by_cases q : v ≥ 0
      · rw [if_pos q, hst, decide_eq_false (fun z => by have := hs.1.2 z; omega), Bool.false_and]
      · rw [if_neg q, hst, decide_eq_true (hs.1.1 (by omega)), Bool.true_and]
        have hw2 : wrap64 (((m + 1 : Nat) : Int) + 1) = ((m + 1 + 1 : Nat) : Int) := by unfold wrap64; omega
        rw [hw2]
        exact ih (m + 1) (by omega) k (by omega)
    · rw [spec_CursorRises.l0, if_neg (by omega), rises_end _ _ _ (by rw [kvC_len]; omega)]

theorem rises_calls {w : World} {A : Option Addr} {n c : Nat} {l : List S36} (o : Int) (hA : Kd.C k36 w A n l) (hn : l.length = n) (hc : n ≤ c) (hx : ∀ x ∈ l, x.f0.length ≤ 4294967296) (hl : n ≤ 4294967296) :
    Calls Tryz.prog 25 #[.int .i64 o, .slice A n c] w fun e w' => e = .returned (.bool (risesL (cmpO o) (kvC l))) ∧ Below w.heap.size w w' := by
  subst hn
  obtain ⟨k, h⟩ : ∃ k, spec_CursorRises.f k o l = some (risesL (cmpO o) (kvC l)) := ⟨_, rises_l0 o l hx hl l.length 0 (by omega) _ (Nat.le_refl _)⟩
  refine (spec_CursorRises.calls k o A c l _ w hA hc h).mono ?_
  rintro e w' ⟨rfl, hw⟩
  exact ⟨rfl, hw.below⟩

theorem fits19_l0 (l : List S44) (hl : l.length ≤ 2147483647) (d : Nat) : ∀ i : Nat, l.length - i = d → i ≤ l.length → ∀ k, d + 1 ≤ k → ∃ b, laws_zzFits19.l0 k l (l.length : Int) (i : Int) = some b ∧ (b = true → ∀ x ∈ l.drop i, x.f0.length ≤ 2147483647 ∧ x.f1.length ≤ 2147483647) := by
  induction d with
  | zero =>
    intro i h1 h2 k hk
    obtain ⟨k, rfl⟩ : ∃ q, k = q + 1 := ⟨k - 1, by omega⟩
    refine ⟨true, by rw [laws_zzFits19.l0, if_neg (by omega)], fun _ x hx => ?_⟩
    rw [List.drop_of_length_le (by omega)] at hx
    cases hx
  | succ d ih =>
    intro i h1 h2 k hk
    obtain ⟨k, rfl⟩ : ∃ q, k = q + 1 := ⟨k - 1, by omega⟩
    have hi : i < l.length := by omega
    rw [laws_zzFits19.l0, if_pos (by omega), if_pos (by omega), if_pos (by omega), s_rd44 l i hi, s_drop hi (⟨[], []⟩ : S44), s_up hi (by omega)]
    unfold laws_zzFits20.f
    by_cases q1 : (((l.getD i (⟨[], []⟩ : S44)).f0.length : Int)) > 2147483647
    · rw [if_pos q1]
      exact ⟨false, rfl, fun h => by cases h⟩
    · rw [if_neg q1]
      by_cases q2 : (((l.getD i (⟨[], []⟩ : S44)).f1.length : Int)) > 2147483647
      · rw [if_pos q2]
        exact ⟨false, rfl, fun h => by cases h⟩
      · rw [if_neg q2]
        obtain ⟨b, hb1, hb2⟩ := ih (i + 1) (by omega) (by omega) k (by omega)
        refine ⟨b, by simp only [Option.bind_some, if_true]; exact hb1, fun h x hx => ?_⟩
        rcases List.mem_cons.1 hx with rfl | hx
        · omega
        · exact hb2 h x hx

/-- what a look at sizes tells -/
def FitTold (P : Prop) (w : World) (e : Ending) (w' : World) : Prop := ∃ b, e = .returned (.bool b) ∧ Hid (b = true → P) ∧ Below w.heap.size w w'

theorem fits19_calls {w : World} {A : Option Addr} {c : Nat} {l : List S44} (hA : Kd.C k44 w A l.length l) (hc : l.length ≤ c) :
    Calls Tryz.prog 21 #[.slice A l.length c] w fun e w' => FitTold (l.length ≤ 2147483647 ∧ ∀ x ∈ l, x.f0.length ≤ 2147483647 ∧ x.f1.length ≤ 2147483647) w e w' := by
  obtain ⟨k, b, h, hb⟩ : ∃ k b, laws_zzFits19.f k l = some b ∧ (b = true → l.length ≤ 2147483647 ∧ ∀ x ∈ l, x.f0.length ≤ 2147483647 ∧ x.f1.length ≤ 2147483647) := by
    by_cases q : (l.length : Int) > 2147483647
    · exact ⟨0, false, by unfold laws_zzFits19.f; rw [if_pos q], fun h => by cases h⟩
    · obtain ⟨b, h1, h2⟩ := fits19_l0 l (by omega) l.length 0 (by omega) (by omega) (l.length + 1) (Nat.le_refl _)
      exact ⟨l.length + 1, b, by unfold laws_zzFits19.f; rw [if_neg q]; exact h1, fun h => ⟨by omega, fun x hx => h2 h x (by rw [List.drop_zero]; exact hx)⟩⟩
  refine (laws_zzFits19.calls k A c l b w hA hc h).mono ?_
  rintro e w' ⟨rfl, hw⟩
  exact ⟨b, rfl, Lib.hid hb, hw⟩

theorem fits22_l0 (l : List S104) (hl : l.length ≤ 2147483647) (d : Nat) : ∀ i : Nat, l.length - i = d → i ≤ l.length → ∀ k, d + 1 ≤ k → ∃ b, laws_zzFits22.l0 k l (l.length : Int) (i : Int) = some b ∧ (b = true → ∀ x ∈ l.drop i, x.f1.length ≤ 2147483647) := by
  induction d with
  | zero =>
    intro i h1 h2 k hk
    obtain ⟨k, rfl⟩ : ∃ q, k = q + 1 := ⟨k - 1, by omega⟩
    refine ⟨true, by rw [laws_zzFits22.l0, if_neg (by omega)], fun _ x hx => ?_⟩
    rw [List.drop_of_length_le (by omega)] at hx
    cases hx
  | succ d ih =>
    intro i h1 h2 k hk
    obtain ⟨k, rfl⟩ : ∃ q, k = q + 1 := ⟨k - 1, by omega⟩
    have hi : i < l.length := by omega
    rw [laws_zzFits22.l0, if_pos (by omega), if_pos (by omega), if_pos (by omega), s_rd104 l i hi, s_drop hi (⟨0, []⟩ : S104), s_up hi (by omega)]
    unfold laws_zzFits23.f
    by_cases q1 : (((l.getD i (⟨0, []⟩ : S104)).f1.length : Int)) > 2147483647
    · rw [if_pos q1]
      exact ⟨false, rfl, fun h => by cases h⟩
    · rw [if_neg q1]
      obtain ⟨b, hb1, hb2⟩ := ih (i + 1) (by omega) (by omega) k (by omega)
      refine ⟨b, by simp only [Option.bind_some, if_true]; exact hb1, fun h x hx => ?_⟩
      rcases List.mem_cons.1 hx with rfl | hx
      · omega
      · exact hb2 h x hx

theorem fits22_calls {w : World} {A : Option Addr} {c : Nat} {l : List S104} (hA : Kd.C k104 w A l.length l) (hc : l.length ≤ c) :
    Calls Tryz.prog 22 #[.slice A l.length c] w fun e w' => FitTold (l.length ≤ 2147483647 ∧ ∀ x ∈ l, x.f1.length ≤ 2147483647) w e w' := by
  obtain ⟨k, b, h, hb⟩ : ∃ k b, laws_zzFits22.f k l = some b ∧ (b = true → l.length ≤ 2147483647 ∧ ∀ x ∈ l, x.f1.length ≤ 2147483647) := by
    by_cases q : (l.length : Int) > 2147483647
    · exact ⟨0, false, by unfold laws_zzFits22.f; rw [if_pos q], fun h => by cases h⟩
    · obtain ⟨b, h1, h2⟩ := fits22_l0 l (by omega) l.length 0 (by omega) (by omega) (l.length + 1) (Nat.le_refl _)
      exact ⟨l.length + 1, b, by unfold laws_zzFits22.f; rw [if_neg q]; exact h1, fun h => ⟨by omega, fun x hx => h2 h x (by rw [List.drop_zero]; exact hx)⟩⟩
  refine (laws_zzFits22.calls k A c l b w hA hc h).mono ?_
  rintro e w' ⟨rfl, hw⟩
  exact ⟨b, rfl, Lib.hid hb, hw⟩

theorem fits21_calls {w : World} {A B : Option Addr} {c d : Nat} {b1 b2 : Bool} {l m : List Int} (hA : Kd.C (Kd.int .u8) w A l.length l) (hc : l.length ≤ c) (hB : Kd.C (Kd.int .u8) w B m.length m) (hd : m.length ≤ d) :
    Calls Tryz.prog 29 #[.agg #[.bool b1, .bool b2, .slice A l.length c, .slice B m.length d]] w fun e w' => FitTold (l.length ≤ 2147483647 ∧ m.length ≤ 2147483647) w e w' := by
  obtain ⟨b, h, hb⟩ : ∃ b, laws_zzFits21.f b1 b2 l m = some b ∧ (b = true → l.length ≤ 2147483647 ∧ m.length ≤ 2147483647) := by
    unfold laws_zzFits21.f
    by_cases q1 : (l.length : Int) > 2147483647
    · rw [if_pos q1]
      exact ⟨false, rfl, fun h => by cases h⟩
    · rw [if_neg q1]
      by_cases q2 : (m.length : Int) > 2147483647
      · rw [if_pos q2]
        exact ⟨false, rfl, fun h => by cases h⟩
      · rw [if_neg q2]
        exact ⟨true, rfl, fun _ => by omega⟩
  refine (laws_zzFits21.calls b1 b2 A c l B d m b w hA hc hB hd h).mono ?_
  rintro e w' ⟨rfl, hw⟩
  exact ⟨b, rfl, Lib.hid hb, hw⟩

end Go.Proofs.YtdkkkikcigjlhaaGreatDoor.Md

namespace Go.Proofs.YtdkkkikcigjlhaaGreatDoor.Md
open Go.RowKit Go.Proofs.YtdkkkikcigjlhaaGreatDoor.Con Go.Proofs.YtdkkkikcigjlhaaGreatDoor.Run Go.Proofs.YtdkkkikcigjlhaaGreatDoorW.PrintWords Go.Proofs.YtdkkkikcigjlhaaGreatDoorW.PrintMore Go.Proofs.YtdkkkikcigjlhaaGreatDoor.Cmp Go.Sort Go.RwLone Go.Proofs.YtdkkkikcigjlhaaGreatDoor.PFnMemMap
set_option linter.unusedVariables false
set_option linter.unusedSimpArgs false

theorem one_byte {w : World} {g : Nat} {b : Int} {fr : Nat × Nat} {e : TypeId} (h : w.heap[g]? = some (.cells #[.int .u8 b] e fr)) : Kd.C (Kd.int .u8) w (some ⟨g, 0, none⟩) ([b] : List Int).length [b] := by
  refine ints_C ⟨rfl, by simp, fun _ => ⟨_, rfl, fun j hj => ?_⟩⟩
  have : j = 0 := by simp at hj; omega
  subst this
  rw [add_zero, cell_of_row w g 0 _ e fr h]
  rfl

theorem add_in (g i : Nat) : (⟨g, 0, none⟩ : Addr).add i = ⟨g, i, none⟩ := by
  unfold Addr.add
  split
  · rename_i e; subst e; rfl
  · simp

abbrev litL : List S44 := [⟨[97], [49]⟩, ⟨[98], []⟩]
abbrev litC (g : Nat) : Array Value := #[.slice (some ⟨g, 0, none⟩) 1 1, .slice (some ⟨g + 1, 0, none⟩) 1 1, .slice (some ⟨g + 1 + 1, 0, none⟩) 1 1, .slice none 0 0]
abbrev litW (w : World) : World := (((w.alloc (.cells #[.int .u8 97] 5 (1, 2))).alloc (.cells #[.int .u8 49] 5 (1, 2))).alloc (.cells #[.int .u8 98] 5 (1, 2))).alloc (.cells (litC w.heap.size) 44)

theorem lit_below (w : World) : Below w.heap.size w (litW w) ∧ (litW w).heap[w.heap.size]? = some (.cells #[.int .u8 97] 5 (1, 2)) ∧ (litW w).heap[w.heap.size + 1]? = some (.cells #[.int .u8 49] 5 (1, 2)) ∧ (litW w).heap[w.heap.size + 1 + 1]? = some (.cells #[.int .u8 98] 5 (1, 2)) ∧ (litW w).heap[w.heap.size + 1 + 1 + 1]? = some (.cells (litC w.heap.size) 44 (0, 0)) := by
  have b1 := below_alloc (Below.refl w.heap.size w) (.cells #[.int .u8 97] 5 (1, 2))
  have n1 := blk_new w (.cells #[.int .u8 97] 5 (1, 2))
  have s1 := World.size_alloc w (.cells #[.int .u8 97] 5 (1, 2))
  unfold litW
  generalize w.alloc (.cells #[.int .u8 97] 5 (1, 2)) = w1 at *
  have b2 := below_alloc (Below.refl w1.heap.size w1) (.cells #[.int .u8 49] 5 (1, 2))
  have n2 := blk_new w1 (.cells #[.int .u8 49] 5 (1, 2))
  have s2 := World.size_alloc w1 (.cells #[.int .u8 49] 5 (1, 2))
  generalize w1.alloc (.cells #[.int .u8 49] 5 (1, 2)) = w2 at *
  have b3 := below_alloc (Below.refl w2.heap.size w2) (.cells #[.int .u8 98] 5 (1, 2))
  have n3 := blk_new w2 (.cells #[.int .u8 98] 5 (1, 2))
  have s3 := World.size_alloc w2 (.cells #[.int .u8 98] 5 (1, 2))
  generalize w2.alloc (.cells #[.int .u8 98] 5 (1, 2)) = w3 at *
  have b4 := below_alloc (Below.refl w3.heap.size w3) (.cells (litC w.heap.size) 44)
  have n4 := blk_new w3 (.cells (litC w.heap.size) 44)
  generalize w3.alloc (.cells (litC w.heap.size) 44) = w4 at *
  have e1 : w1.heap.size = w.heap.size + 1 := s1
  have e2 : w2.heap.size = w.heap.size + 1 + 1 := by rw [s2, e1]
  have e3 : w3.heap.size = w.heap.size + 1 + 1 + 1 := by rw [s3, e2]
  rw [e1] at n2
  rw [e2] at n3
  rw [e3] at n4
  have b12 := b1.trans (b2.mono b1.size)
  have b13 := b12.trans (b3.mono b12.size)
  refine ⟨b13.trans (b4.mono b13.size), ?_, ?_, ?_, n4⟩
  · exact (b4.block _ (by omega)).trans ((b3.block _ (by omega)).trans ((b2.block _ (by omega)).trans n1))
  · exact (b4.block _ (by omega)).trans ((b3.block _ (by omega)).trans n2)
  · exact (b4.block _ (by omega)).trans n3

theorem lit_C {W : World} {g : Nat} (h0 : W.heap[g]? = some (.cells #[.int .u8 97] 5 (1, 2))) (h1 : W.heap[g + 1]? = some (.cells #[.int .u8 49] 5 (1, 2))) (h2 : W.heap[g + 1 + 1]? = some (.cells #[.int .u8 98] 5 (1, 2))) (h3 : W.heap[g + 1 + 1 + 1]? = some (.cells (litC g) 44 (0, 0))) :
    Kd.C k44 W (some ⟨g + 1 + 1 + 1, 0, none⟩) 2 litL := by
  refine ⟨rfl, by decide, fun _ => ⟨_, rfl, fun j p hj => ?_⟩⟩
  rcases j with _ | _ | j
  · simp only [List.getElem?_cons_zero, Option.some.injEq] at hj
    subst hj
    refine ⟨_, rfl, k44_mk W ⟨[97], [49]⟩ (c0 := 1) (by simp) (one_byte h0) (c1 := 1) (by simp) (one_byte h1), fun i u hu => ?_⟩
    have e : 0 * k44.sz + i = i := by rw [Nat.zero_mul, Nat.zero_add]
    rw [e, add_in, cell_of_row _ _ i _ _ _ h3]
    rcases i with _ | _ | i
    · simpa using hu
    · simpa using hu
    · simp at hu
  · simp only [List.getElem?_cons_succ, List.getElem?_cons_zero, Option.some.injEq] at hj
    subst hj
    refine ⟨_, rfl, k44_mk W ⟨[98], []⟩ (c0 := 1) (by simp) (one_byte h2) (A1 := none) (c1 := 0) (by simp) (Kd.F_now (Kd.F_nil _ _ (fun _ => True))), fun i u hu => ?_⟩
    have e : 1 * k44.sz + i = 2 + i := by show 1 * 2 + i = 2 + i; omega
    rw [show (0 + 1) * k44.sz + i = 2 + i from e, add_in, cell_of_row _ _ (2 + i) _ _ _ h3]
    rcases i with _ | _ | i
    · simpa using hu
    · simpa using hu
    · simp at hu
  · simp at hj

theorem lit_F (w : World) : Kd.F k44 (litW w) (fun k => w.heap.size ≤ k ∧ k < (litW w).heap.size) (some ⟨w.heap.size + 1 + 1 + 1, 0, none⟩) 2 litL := by
  obtain ⟨hb, h0, h1, h2, h3⟩ := lit_below w
  have hs := blk_lt h3
  intro W' hk
  have q : ∀ k, w.heap.size ≤ k → k < (litW w).heap.size → W'.heap[k]? = (litW w).heap[k]? := fun k h1 h2 => hk k ⟨h1, h2⟩ h2
  exact lit_C ((q _ (Nat.le_refl _) (blk_lt h0)).trans h0) ((q _ (by omega) (blk_lt h1)).trans h1) ((q _ (by omega) (blk_lt h2)).trans h2) ((q _ (by omega) hs).trans h3)

theorem mv2_F (w : World) (a b : Int) : Kd.F k104 (w.alloc (.cells #[.int .i64 a, .slice none 0 0, .int .i64 b, .slice none 0 0] 104)) (fun k => k = w.heap.size) (some ⟨w.heap.size, 0, none⟩) 2 [⟨a, []⟩, ⟨b, []⟩] := by
  have h := blk_new w (.cells #[.int .i64 a, .slice none 0 0, .int .i64 b, .slice none 0 0] 104)
  intro W' hk
  have h3 := (hk _ rfl (blk_lt h)).trans h
  refine ⟨rfl, by decide, fun _ => ⟨_, rfl, fun j p hj => ?_⟩⟩
  rcases j with _ | _ | j
  · simp only [List.getElem?_cons_zero, Option.some.injEq] at hj
    subst hj
    refine ⟨_, rfl, k104_mk W' ⟨a, []⟩ (A1 := none) (c1 := 0) (by simp) (Kd.F_now (Kd.F_nil _ _ (fun _ => True))), fun i u hu => ?_⟩
    have e : 0 * k104.sz + i = i := by rw [Nat.zero_mul, Nat.zero_add]
    rw [e, add_in, cell_of_row _ _ i _ _ _ h3]
    rcases i with _ | _ | i
    · simpa using hu
    · simpa using hu
    · simp at hu
  · simp only [List.getElem?_cons_succ, List.getElem?_cons_zero, Option.some.injEq] at hj
    subst hj
    refine ⟨_, rfl, k104_mk W' ⟨b, []⟩ (A1 := none) (c1 := 0) (by simp) (Kd.F_now (Kd.F_nil _ _ (fun _ => True))), fun i u hu => ?_⟩
    have e : (0 + 1) * k104.sz + i = 2 + i := by show (0 + 1) * 2 + i = 2 + i; omega
    rw [e, add_in, cell_of_row _ _ (2 + i) _ _ _ h3]
    rcases i with _ | _ | i
    · simpa using hu
    · simpa using hu
    · simp at hu
  · simp at hj

theorem mv1_F (w : World) (a : Int) : Kd.F k104 (w.alloc (.cells #[.int .i64 a, .slice none 0 0] 104)) (fun k => k = w.heap.size) (some ⟨w.heap.size, 0, none⟩) 1 [⟨a, []⟩] := by
  have h := blk_new w (.cells #[.int .i64 a, .slice none 0 0] 104)
  intro W' hk
  have h3 := (hk _ rfl (blk_lt h)).trans h
  refine ⟨rfl, by decide, fun _ => ⟨_, rfl, fun j p hj => ?_⟩⟩
  rcases j with _ | j
  · simp only [List.getElem?_cons_zero, Option.some.injEq] at hj
    subst hj
    refine ⟨_, rfl, k104_mk W' ⟨a, []⟩ (A1 := none) (c1 := 0) (by simp) (Kd.F_now (Kd.F_nil _ _ (fun _ => True))), fun i u hu => ?_⟩
    have e : 0 * k104.sz + i = i := by rw [Nat.zero_mul, Nat.zero_add]
    rw [e, add_in, cell_of_row _ _ i _ _ _ h3]
    rcases i with _ | _ | i
    · simpa using hu
    · simpa using hu
    · simp at hu
  · simp at hj

end Go.Proofs.YtdkkkikcigjlhaaGreatDoor.Md

namespace Go.Proofs.YtdkkkikcigjlhaaGreatDoor.Md
open Go.RowKit Go.Proofs.YtdkkkikcigjlhaaGreatDoor.Con Go.Proofs.YtdkkkikcigjlhaaGreatDoor.Run Go.Proofs.YtdkkkikcigjlhaaGreatDoorW.PrintWords Go.Proofs.YtdkkkikcigjlhaaGreatDoorW.PrintMore Go.Proofs.YtdkkkikcigjlhaaGreatDoor.Cmp Go.Sort Go.RwLone
set_option linter.unusedVariables false
set_option linter.unusedSimpArgs false

/-- in the range -/
def inr (f : List Int → List Int → Int) (st lim : Option (List Int)) (x : Node) : Bool := over f st x.key && under f lim x.key
/-- the pairs in the range -/
def rangeL (f : List Int → List Int → Int) (st lim : Option (List Int)) (ns : List Node) : List KV := (ns.filter (inr f st lim)).map fun x => (x.key, x.val)

/-- the place that an iterator stands at -/
def Pl (f : List Int → List Int → Int) (st lim : Option (List Int)) (ns : List Node) (i : Int) (fw : Bool) : Option Node → Prop
  | some x => ∃ A B, ns = A ++ x :: B ∧ inr f st lim x = true ∧ i = ((A.filter (inr f st lim)).length : Int)
  | none => (fw = true ∧ i = ((rangeL f st lim ns).length : Int)) ∨ (fw = false ∧ i = -1)

section
variable {f : List Int → List Int → Int} {st lim : Option (List Int)} {ns P R A B : List Node} {x : Node} {i : Int} {fw : Bool} {o : Option Node}

theorem range_app (A B : List Node) : rangeL f st lim (A ++ B) = rangeL f st lim A ++ rangeL f st lim B := by simp [rangeL]
theorem range_len (A : List Node) : (rangeL f st lim A).length = (A.filter (inr f st lim)).length := by simp [rangeL]
theorem range_in (h : inr f st lim x = true) : rangeL f st lim (A ++ x :: B) = rangeL f st lim A ++ (x.key, x.val) :: rangeL f st lim B := by simp [rangeL, h]
theorem range_none (h : ∀ x ∈ A, inr f st lim x = false) : rangeL f st lim A = [] := by
  unfold rangeL
  rw [List.filter_eq_nil_iff.2 (fun x hx => by rw [h x hx]; simp)]
  rfl

theorem Pl.on (h : Pl f st lim ns i fw o) : onL (rangeL f st lim ns) i = o.isSome ∧ keyL (rangeL f st lim ns) i = (match o with | some x => x.key | none => []) ∧ valL (rangeL f st lim ns) i = (match o with | some x => x.val | none => []) := by
  cases o with
  | none =>
    have e : onL (rangeL f st lim ns) i = false := by
      unfold onL
      rcases h with ⟨_, rfl⟩ | ⟨_, rfl⟩ <;> simp
    exact ⟨e, by unfold keyL; rw [e]; rfl, by unfold valL; rw [e]; rfl⟩
  | some x =>
    obtain ⟨A, B, rfl, hx, rfl⟩ := h
    have hl := range_in (f := f) (st := st) (lim := lim) (A := A) (B := B) hx
    have e : onL (rangeL f st lim (A ++ x :: B)) ((A.filter (inr f st lim)).length : Int) = true := by
      unfold onL
      rw [hl]
      simp [range_len]
      omega
    have g : (rangeL f st lim (A ++ x :: B)).getD (A.filter (inr f st lim)).length ([], []) = (x.key, x.val) := by
      rw [hl, ← range_len]
      simp [List.getD_eq_getElem?_getD]
    refine ⟨e, ?_, ?_⟩
    · unfold keyL
      rw [e, if_pos rfl, Int.toNat_natCast, g]
    · unfold valL
      rw [e, if_pos rfl, Int.toNat_natCast, g]

/-- what is behind one that is not below the upper end is not below it either -/
theorem under_up (ho : Ord f) {a b : List Int} (h : f a b < 0) (hb : under f lim b = true) : under f lim a = true := by
  cases lim with
  | none => rfl
  | some l =>
    have hb : f b l < 0 := by simpa [under] using hb
    simp [under]
    exact ho.trans _ _ _ h hb
theorem over_up (ho : Ord f) {a b : List Int} (h : f a b < 0) (ha : over f st a = true) : over f st b = true := by
  cases st with
  | none => rfl
  | some l =>
    have ha : 0 ≤ f a l := by
      simp [over] at ha
      exact ha
    refine over_yes ?_
    rcases Int.lt_or_le (f b l) 0 with q | q
    · have := ho.trans _ _ _ h q
      omega
    · exact q

theorem sorted_mem (hs : Sorted f (A ++ x :: B)) : (∀ y ∈ A, f y.key x.key < 0) ∧ ∀ y ∈ B, f x.key y.key < 0 := by
  obtain ⟨_, h2, h3⟩ := List.pairwise_append.1 hs
  exact ⟨fun y hy => h3 y hy x List.mem_cons_self, fun y hy => (List.pairwise_cons.1 h2).1 y hy⟩

/-- the first of R, if it is below the upper end -/
theorem head_pl (ho : Ord f) (hs : Sorted f ns) (e : ns = P ++ R) (hR : ∀ x ∈ R, over f st x.key = true) (hi : i = ((P.filter (inr f st lim)).length : Int)) : Pl f st lim ns i true (R.head?.filter fun x => under f lim x.key) := by
  cases R with
  | nil =>
    refine .inl ⟨rfl, ?_⟩
    rw [hi, e, List.append_nil, range_len]
  | cons y R' =>
    show Pl f st lim ns i true ((some y).filter _)
    rw [Option.filter_some]
    by_cases hu : under f lim y.key = true
    · rw [if_pos hu]
      exact ⟨P, R', e, by unfold inr; rw [hR y List.mem_cons_self, hu]; rfl, hi⟩
    · rw [if_neg hu]
      refine .inl ⟨rfl, ?_⟩
      have hn : rangeL f st lim (y :: R') = [] := range_none fun z hz => by
        have : under f lim z.key = false := by
          rcases List.mem_cons.1 hz with rfl | hz
          · simpa using hu
          · rw [e] at hs
            cases q : under f lim z.key with
            | false => rfl
            | true => exact absurd (under_up ho ((sorted_mem hs).2 z hz) q) hu
        unfold inr
        rw [this, Bool.and_false]
      rw [hi, e, range_app, hn, List.append_nil, range_len]

theorem last_pl (ho : Ord f) (hs : Sorted f ns) (e : ns = P ++ R) (hP : ∀ x ∈ P, under f lim x.key = true) (hi : i = ((P.filter (inr f st lim)).length : Int) - 1) : Pl f st lim ns i false (P.getLast?.filter fun x => over f st x.key) := by
  rcases List.eq_nil_or_concat P with rfl | ⟨A, y, rfl⟩
  · exact .inr ⟨rfl, by rw [hi]; rfl⟩
  · have el : (A ++ [y]).getLast? = some y := by simp
    rw [List.concat_eq_append] at e hP hi ⊢
    rw [el, Option.filter_some]
    by_cases hu : over f st y.key = true
    · rw [if_pos hu]
      have hy : inr f st lim y = true := by unfold inr; rw [hu, hP y (by simp)]; rfl
      refine ⟨A, R, by rw [e]; simp, hy, ?_⟩
      rw [hi, List.filter_append]
      simp [hy]
    · rw [if_neg hu]
      refine .inr ⟨rfl, ?_⟩
      have hn : (A ++ [y]).filter (inr f st lim) = [] := List.filter_eq_nil_iff.2 fun z hz => by
        have : over f st z.key = false := by
          rcases List.mem_append.1 hz with hz | hz
          · cases q : over f st z.key with
            | false => rfl
            | true =>
              rw [e, List.append_assoc] at hs
              exact absurd (over_up ho ((sorted_mem (A := A) (x := y) (B := R) (by simpa using hs)).1 z hz) q) hu
          · rw [List.mem_singleton.1 hz]
            simpa using hu
        unfold inr
        rw [this]
        simp
      rw [hi, hn]
      rfl

theorem findL_app (key : List Int) : ∀ (A B : List KV), (∀ x ∈ A, f x.1 key < 0) → (∀ x ∈ B, 0 ≤ f x.1 key) → findL f key (A ++ B) = A.length := by
  intro A
  induction A with
  | nil =>
    intro B _ hB
    cases B with
    | nil => rfl
    | cons x r =>
      have := hB x List.mem_cons_self
      simp only [List.nil_append, findL, List.length_nil]
      rw [if_neg (by omega)]
  | cons x r ih =>
    intro B hA hB
    simp only [List.cons_append, findL, List.length_cons]
    rw [if_pos (hA x List.mem_cons_self), ih B (fun y hy => hA y (List.mem_cons_of_mem _ hy)) hB]

theorem seek_place (key : List Int) (e : ns = P ++ R) (hP : ∀ x ∈ P, inr f st lim x = true → f x.key key < 0) (hR : ∀ x ∈ R, 0 ≤ f x.key key) : findL f key (rangeL f st lim ns) = (P.filter (inr f st lim)).length := by
  rw [e, range_app, findL_app, range_len]
  · intro x hx
    obtain ⟨y, hy, rfl⟩ := List.mem_map.1 hx
    exact hP y (List.mem_filter.1 hy).1 (List.mem_filter.1 hy).2
  · intro x hx
    obtain ⟨y, hy, rfl⟩ := List.mem_map.1 hx
    exact hR y (List.mem_filter.1 hy).1
end

end Go.Proofs.YtdkkkikcigjlhaaGreatDoor.Md

namespace Go.Proofs.YtdkkkikcigjlhaaGreatDoor.Md
open Go.RowKit Go.Proofs.YtdkkkikcigjlhaaGreatDoor.Con Go.Proofs.YtdkkkikcigjlhaaGreatDoor.Run Go.Proofs.YtdkkkikcigjlhaaGreatDoorW.PrintWords Go.Proofs.YtdkkkikcigjlhaaGreatDoorW.PrintMore Go.Proofs.YtdkkkikcigjlhaaGreatDoor.Cmp Go.Sort Go.RwLone
set_option linter.unusedVariables false
set_option linter.unusedSimpArgs false

theorem Rg2.mono {w : World} {ok ok' : Nat → Prop} {sv : Value} {st lim : Option (List Int)} (h : Rg2 w ok sv st lim) (hm : ∀ k, ok k → ok' k) : Rg2 w ok' sv st lim := by
  rcases h with h | ⟨s, Sb, Lb, h1, h2, h3, h4, h5, h6, h7, h8⟩
  · exact .inl h
  · exact .inr ⟨s, Sb, Lb, h1, hm _ h2, h3, h4, h5, h6, fun l a c e1 e2 => hm _ (h7 l a c e1 e2), fun l a c e1 e2 => hm _ (h8 l a c e1 e2)⟩

/-- an iterator of a table: its place i; its blocks lie from lo to hi -/
structure DbAt (base p : Nat) (V : Value) (f : List Int → List Int → Int) (ns : List Node) (kb nb it : Nat) (sv : Value) (st lim : Option (List Int)) (lo hi : Nat) (w : World) (i : Int) (D : MemD) (fw : Bool) (o : Option Node) : Prop where
  M : MIt w D base p V f ns kb nb it sv st lim fw o
  pl : Pl f st lim ns i fw o
  own : ∀ k, D.own p k → lo ≤ k ∧ k < hi
  at_ : lo ≤ it ∧ it < hi
  rg : Rg2 w (fun k => D.apart p it k ∧ (lo ≤ k ∧ k < hi)) sv st lim
  top : hi ≤ w.heap.size

def DbSt (base p : Nat) (V : Value) (f : List Int → List Int → Int) (ns : List Node) (kb nb it : Nat) (sv : Value) (st lim : Option (List Int)) (lo hi : Nat) (w : World) (i : Int) (F : Nat → Prop) : Prop :=
  F = (fun k => lo ≤ k ∧ k < hi) ∧ ∃ D fw o, DbAt base p V f ns kb nb it sv st lim lo hi w i D fw o

section
variable {base p kb nb it lo hi : Nat} {V sv : Value} {f : List Int → List Int → Int} {ns : List Node} {st lim : Option (List Int)} {w w1 : World} {i j : Int} {D : MemD} {fw fw' : Bool} {o o' : Option Node}

theorem DbAt.keep (h : DbAt base p V f ns kb nb it sv st lim lo hi w i D fw o) (hk : ∀ k, lo ≤ k ∧ k < hi → w1.heap[k]? = w.heap[k]?) (hs : w.heap.size ≤ w1.heap.size) : DbAt base p V f ns kb nb it sv st lim lo hi w1 i D fw o := by
  have hr := h.rg.keep (w1 := w1) (fun k ho _ => hk k ho.2)
  obtain ⟨ics, hb, hi'⟩ := h.M.blk
  exact ⟨⟨h.M.M.keep (fun k ho => hk k (h.own k ho)), ⟨ics, (hk it h.at_).trans hb, hi'⟩, h.M.on, hr.mono (fun k q => q.1), h.M.ne⟩, h.pl, h.own, h.at_, hr, Nat.le_trans h.top hs⟩

theorem DbAt.moved (h : DbAt base p V f ns kb nb it sv st lim lo hi w i D fw o) {cs : Array Value} (hm : MIt w1 { D with cs := cs } base p V f ns kb nb it sv st lim fw' o') (hf : Fr w w1 (fun k => k = it ∨ k = p)) (hp : Pl f st lim ns j fw' o') :
    Mv (DbSt base p V f ns kb nb it sv st lim lo hi) w (fun k => lo ≤ k ∧ k < hi) j w1 := by
  refine ⟨_, ⟨rfl, { D with cs := cs }, fw', o', hm, hp, h.own, h.at_, ?_, Nat.le_trans h.top hf.size⟩, hf.mono (fun k hk => ?_), fun k hk => .inl hk⟩
  · exact h.rg.keep (fun k hk hlt => hf.block k hlt (fun q => by
      rcases q with rfl | rfl
      · exact hk.1.1 rfl
      · exact hk.1.2 (.inr (.inl rfl))))
  · rcases hk with rfl | rfl
    · exact h.at_
    · exact h.own _ (.inr (.inl rfl))
end

set_option maxHeartbeats 1600000 in
theorem DbValid_calls {w : World} {it p : Nat} {ics : Array Value} {sv : Value} {fw : Bool} {kv : List Int} {Kx : Option Addr} {o : Option Node} (hb : Blk w it ics) (hi : ItAt kv Kx ics p sv fw o) (ha : ∀ x, o = some x → 16 ≤ x.a) :
    Calls Tryz.prog 172 #[.pointer (some ⟨it, 0, none⟩)] w fun e w' => e = .returned (.bool o.isSome) ∧ w = w' := by
  obtain ⟨A1, n1, c1, B1, m1, d1, hs⟩ := hi.is
  have e4 := hb.cell hs.c4
  clear hb hi hs
  cases o with
  | none =>
    go_enter Tryz.func172, Tryz.ntmps172
    go_wp2
    go_ret
    exact ⟨rfl, rfl⟩
  | some x =>
    have z := nz (ha x rfl)
    replace e4 : w.cell? ⟨it, 4, none⟩ = some (.int .i64 (x.a : Int)) := e4
    clear ha
    generalize x.a = a at *
    go_enter Tryz.func172, Tryz.ntmps172
    go_wp2
    go_ret
    exact ⟨rfl, rfl⟩

set_option maxHeartbeats 1600000 in
theorem DbError_calls {w : World} {it : Nat} (h : w.cell? ⟨it, 8, none⟩ = some .nilIface) :
    Calls Tryz.prog 163 #[.pointer (some ⟨it, 0, none⟩)] w fun e w' => e = .returned .nilIface ∧ w = w' := by
  go_enter Tryz.func163, Tryz.ntmps163
  go_wp2
  go_ret
  exact ⟨rfl, rfl⟩

set_option maxHeartbeats 1600000 in
theorem DbKey_calls {w : World} {it n c : Nat} {A : Option Addr} (h : w.cell? ⟨it, 6, none⟩ = some (.slice A n c)) :
    Calls Tryz.prog 165 #[.pointer (some ⟨it, 0, none⟩)] w fun e w' => e = .returned (.slice A n c) ∧ w = w' := by
  go_enter Tryz.func165, Tryz.ntmps165
  go_wp2
  go_ret
  exact ⟨rfl, rfl⟩

set_option maxHeartbeats 1600000 in
theorem DbValue_calls {w : World} {it n c : Nat} {A : Option Addr} (h : w.cell? ⟨it, 7, none⟩ = some (.slice A n c)) :
    Calls Tryz.prog 173 #[.pointer (some ⟨it, 0, none⟩)] w fun e w' => e = .returned (.slice A n c) ∧ w = w' := by
  go_enter Tryz.func173, Tryz.ntmps173
  go_wp2
  go_ret
  exact ⟨rfl, rfl⟩

end Go.Proofs.YtdkkkikcigjlhaaGreatDoor.Md

namespace Go.Proofs.YtdkkkikcigjlhaaGreatDoor.Md
open Go.RowKit Go.Proofs.YtdkkkikcigjlhaaGreatDoor.Con Go.Proofs.YtdkkkikcigjlhaaGreatDoor.Run Go.Proofs.YtdkkkikcigjlhaaGreatDoorW.PrintWords Go.Proofs.YtdkkkikcigjlhaaGreatDoorW.PrintMore Go.Proofs.YtdkkkikcigjlhaaGreatDoor.Cmp Go.Sort Go.RwLone
set_option linter.unusedVariables false
set_option linter.unusedSimpArgs false

section
variable {base p kb nb it lo hi : Nat} {V sv : Value} {f : List Int → List Int → Int} {ns : List Node} {st lim : Option (List Int)} {w : World} {i : Int} {D : MemD} {fw : Bool} {o : Option Node}

/-- a move that is told, as a cursor's -/
theorem DbAt.tell {K : Nat} {args : Array Value} {fw' : Bool} {o' : Option Node} {j : Int} (h : DbAt base p V f ns kb nb it sv st lim lo hi w i D fw o) (hp : Pl f st lim ns j fw' o') (hc : Calls Tryz.prog K args w fun e w' => Moved w D base p V f ns kb nb it sv st lim fw' o' e w') :
    Calls Tryz.prog K args w fun e w' => ∃ b, e = .returned (.bool b) ∧ Hid (b = onL (rangeL f st lim ns) j) ∧ Hid (Mv (DbSt base p V f ns kb nb it sv st lim lo hi) w (fun k => lo ≤ k ∧ k < hi) j w') :=
  hc.mono (by
    rintro e w' ⟨rfl, cs, hm, hf⟩
    exact ⟨_, rfl, Lib.hid hp.on.1.symm, Lib.hid (h.moved hm hf hp)⟩)

theorem DbAt.ord (h : DbAt base p V f ns kb nb it sv st lim lo hi w i D fw o) : Ord f := h.M.M.cm.ord
theorem DbAt.srt (h : DbAt base p V f ns kb nb it sv st lim lo hi w i D fw o) : Sorted f ns := h.M.M.sorted

theorem Db_first (h : DbAt base p V f ns kb nb it sv st lim lo hi w i D fw o) (hkb : kb ≤ 1099511627776) (hnb : nb ≤ 1099511627776) : ∃ o', Pl f st lim ns 0 true o' ∧ Calls Tryz.prog 164 #[.pointer (some ⟨it, 0, none⟩)] w fun e w' => Moved w D base p V f ns kb nb it sv st lim true o' e w' := by
  cases st with
  | none => exact ⟨_, head_pl (P := []) h.ord h.srt rfl (fun _ _ => rfl) rfl, First_all h.M hkb hnb⟩
  | some l =>
    obtain ⟨P, R, e, h1, h2, _⟩ := h.M.M.split l
    have hP : P.filter (inr f (some l) lim) = [] := List.filter_eq_nil_iff.2 fun x hx => by unfold inr; rw [over_no (h1 x hx)]; simp
    exact ⟨_, head_pl h.ord h.srt e (fun x hx => over_yes (h2 x hx)) (by rw [hP]; rfl), First_from h.M hkb hnb e h1 h2⟩

theorem Db_last (h : DbAt base p V f ns kb nb it sv st lim lo hi w i D fw o) (hkb : kb ≤ 1099511627776) (hnb : nb ≤ 1099511627776) : ∃ o', Pl f st lim ns (((rangeL f st lim ns).length : Int) - 1) false o' ∧ Calls Tryz.prog 166 #[.pointer (some ⟨it, 0, none⟩)] w fun e w' => Moved w D base p V f ns kb nb it sv st lim false o' e w' := by
  cases lim with
  | none => exact ⟨_, last_pl (R := []) h.ord h.srt (by simp) (fun _ _ => rfl) (by rw [range_len]), Last_all h.M hkb hnb⟩
  | some l =>
    obtain ⟨P, R, e, h1, h2, _⟩ := h.M.M.split l
    have hR : R.filter (inr f st (some l)) = [] := List.filter_eq_nil_iff.2 fun x hx => by
      have := h2 x hx
      have hu : under f (some l) x.key = false := by simp [under]; omega
      unfold inr
      rw [hu]
      simp
    exact ⟨_, last_pl h.ord h.srt e (fun x hx => by simpa [under] using h1 x hx) (by rw [range_len, e, List.filter_append, hR, List.append_nil]), Last_to h.M hkb hnb e h1 h2⟩

theorem Db_next (h : DbAt base p V f ns kb nb it sv st lim lo hi w i D fw o) (hkb : kb ≤ 1099511627776) (hnb : nb ≤ 1099511627776) : ∃ fw' o', Pl f st lim ns (mvL f (rangeL f st lim ns) i 2 []) fw' o' ∧ Calls Tryz.prog 167 #[.pointer (some ⟨it, 0, none⟩)] w fun e w' => Moved w D base p V f ns kb nb it sv st lim fw' o' e w' := by
  have hmv : mvL f (rangeL f st lim ns) i 2 [] = if i + 1 ≤ ((rangeL f st lim ns).length : Int) then i + 1 else ((rangeL f st lim ns).length : Int) := rfl
  cases o with
  | none =>
    rcases h.pl with ⟨rfl, hi'⟩ | ⟨rfl, rfl⟩
    · refine ⟨true, none, ?_, Next_end h.M⟩
      rw [hmv, if_neg (by omega)]
      exact .inl ⟨rfl, rfl⟩
    · obtain ⟨o', h1, h2⟩ := Db_first h hkb hnb
      refine ⟨true, o', ?_, Next_begin h.M h2⟩
      rw [hmv, if_pos (by omega)]
      exact h1
  | some x =>
    obtain ⟨A, B, e, hx, hi'⟩ := h.pl
    have hxo : over f st x.key = true := by
      unfold inr at hx
      exact (Bool.and_eq_true _ _ ▸ hx).1
    have hs := h.srt
    rw [e] at hs
    refine ⟨true, _, ?_, Next_on h.M hkb hnb e⟩
    refine head_pl (P := A ++ [x]) h.ord h.srt (by rw [e]; simp) (fun y hy => over_up h.ord ((sorted_mem hs).2 y hy) hxo) ?_
    have hl : (rangeL f st lim ns).length = (A.filter (inr f st lim)).length + ((B.filter (inr f st lim)).length + 1) := by
      rw [e, range_in hx]
      simp [range_len]
    rw [hmv, if_pos (by rw [hi', hl]; omega), hi', List.filter_append]
    simp [hx]

theorem Db_prev (h : DbAt base p V f ns kb nb it sv st lim lo hi w i D fw o) (hkb : kb ≤ 1099511627776) (hnb : nb ≤ 1099511627776) : ∃ fw' o', Pl f st lim ns (mvL f (rangeL f st lim ns) i 3 []) fw' o' ∧ Calls Tryz.prog 168 #[.pointer (some ⟨it, 0, none⟩)] w fun e w' => Moved w D base p V f ns kb nb it sv st lim fw' o' e w' := by
  have hmv : mvL f (rangeL f st lim ns) i 3 [] = if -1 ≤ i - 1 then i - 1 else -1 := rfl
  cases o with
  | none =>
    rcases h.pl with ⟨rfl, hi'⟩ | ⟨rfl, rfl⟩
    · obtain ⟨o', h1, h2⟩ := Db_last h hkb hnb
      refine ⟨false, o', ?_, Prev_end h.M h2⟩
      rw [hmv, if_pos (by omega), hi']
      exact h1
    · refine ⟨false, none, ?_, Prev_begin h.M⟩
      rw [hmv, if_neg (by omega)]
      exact .inr ⟨rfl, rfl⟩
  | some x =>
    obtain ⟨A, B, e, hx, hi'⟩ := h.pl
    have hxu : under f lim x.key = true := by
      unfold inr at hx
      exact (Bool.and_eq_true _ _ ▸ hx).2
    have hs := h.srt
    rw [e] at hs
    refine ⟨false, _, ?_, Prev_on h.M hkb hnb e⟩
    refine last_pl (P := A) h.ord h.srt e (fun y hy => under_up h.ord ((sorted_mem hs).1 y hy) hxu) ?_
    rw [hmv, if_pos (by omega), hi']

theorem Db_seek {A0 : Option Addr} {ca : Nat} {key : List Int} (h : DbAt base p V f ns kb nb it sv st lim lo hi w i D fw o) (hkb : kb ≤ 1099511627776) (hnb : nb ≤ 1099511627776) (hA : Kd.C (Kd.int .u8) w A0 key.length key) (hk : Byt key) (hne : 0 < key.length → ∀ a, A0 = some a → ¬ (lo ≤ a.block ∧ a.block < hi)) :
    ∃ o', Pl f st lim ns (findL f key (rangeL f st lim ns) : Int) true o' ∧ Calls Tryz.prog 170 #[.pointer (some ⟨it, 0, none⟩), .slice A0 key.length ca] w fun e w' => Moved w D base p V f ns kb nb it sv st lim true o' e w' := by
  have hne' : 0 < key.length → ∀ a, A0 = some a → ¬ (a.block = it ∨ a.block = p) := fun hp a ha q => hne hp a ha (by
    rcases q with q | q
    · rw [q]; exact h.at_
    · rw [q]; exact h.own p (.inr (.inl rfl)))
  have go : ∀ l P R, ns = P ++ R → (∀ x ∈ P, f x.key l < 0) → (∀ x ∈ R, 0 ≤ f x.key l) → (∀ x ∈ R, over f st x.key = true) → (∀ x ∈ P, inr f st lim x = true → f x.key key < 0) → (∀ x ∈ R, 0 ≤ f x.key key) →
      Pl f st lim ns (findL f key (rangeL f st lim ns) : Int) true (R.head?.filter fun x => under f lim x.key) := by
    intro l P R e _ _ h3 h4 h5
    exact head_pl h.ord h.srt e h3 (by rw [seek_place key e h4 h5])
  cases st with
  | none =>
    obtain ⟨P, R, e, h1, h2, _⟩ := h.M.M.split key
    exact ⟨_, go key P R e h1 h2 (fun _ _ => rfl) (fun x hx _ => h1 x hx) h2, Seek_a h.M hkb hnb e h1 h2 hA hk hne'⟩
  | some l =>
    by_cases hlt : f key l < 0
    · obtain ⟨P, R, e, h1, h2, _⟩ := h.M.M.split l
      refine ⟨_, go l P R e h1 h2 (fun x hx => over_yes (h2 x hx)) (fun x hx hin => ?_) (fun x hx => ?_), Seek_b h.M hkb hnb e h1 h2 hA hk hne' hlt⟩
      · unfold inr at hin
        rw [over_no (h1 x hx)] at hin
        cases hin
      · have := h.ord.lt_of hlt (h2 x hx)
        rw [h.ord.swap]
        omega
    · obtain ⟨P, R, e, h1, h2, _⟩ := h.M.M.split key
      refine ⟨_, go key P R e h1 h2 (fun x hx => over_yes ?_) (fun x hx _ => h1 x hx) h2, Seek_c h.M hkb hnb e h1 h2 hA hk hne' hlt⟩
      rcases Int.lt_or_le (f x.key l) 0 with q | q
      · have h3 : f x.key key < 0 := h.ord.lt_of q (by omega)
        have := h2 x hx
        omega
      · exact q

set_option maxRecDepth 100000 in
/-- the memory table's iterator is a cursor on the pairs in the range -/
theorem db_iter (hkb : kb ≤ 1099511627776) (hnb : nb ≤ 1099511627776) :
    Iter f 147 (.pointer (some ⟨it, 0, none⟩)) 164 166 167 168 170 172 163 165 173
      (rangeL f st lim ns) (DbSt base p V f ns kb nb it sv st lim lo hi) where
  n := by
    intro m hm w
    simp only [List.mem_cons, List.not_mem_nil, or_false] at hm
    rcases hm with rfl | rfl | rfl | rfl | rfl | rfl | rfl | rfl | rfl <;> kernel_rfl
  mF := fun w => by kernel_rfl
  mL := fun w => by kernel_rfl
  mN := fun w => by kernel_rfl
  mP := fun w => by kernel_rfl
  mS := fun w => by kernel_rfl
  mV := fun w => by kernel_rfl
  mE := fun w => by kernel_rfl
  mK := fun w => by kernel_rfl
  mU := fun w => by kernel_rfl
  c := by
    intro k hk args w
    simp only [List.mem_cons, List.not_mem_nil, or_false] at hk
    rcases hk with rfl | rfl | rfl | rfl | rfl | rfl | rfl | rfl | rfl
    · exact Go.MuLone.run_callFunc_enter Tryz.func164 (by kernel_rfl) rfl args w
    · exact Go.MuLone.run_callFunc_enter Tryz.func166 (by kernel_rfl) rfl args w
    · exact Go.MuLone.run_callFunc_enter Tryz.func167 (by kernel_rfl) rfl args w
    · exact Go.MuLone.run_callFunc_enter Tryz.func168 (by kernel_rfl) rfl args w
    · exact Go.MuLone.run_callFunc_enter Tryz.func170 (by kernel_rfl) rfl args w
    · exact Go.MuLone.run_callFunc_enter Tryz.func172 (by kernel_rfl) rfl args w
    · exact Go.MuLone.run_callFunc_enter Tryz.func163 (by kernel_rfl) rfl args w
    · exact Go.MuLone.run_callFunc_enter Tryz.func165 (by kernel_rfl) rfl args w
    · exact Go.MuLone.run_callFunc_enter Tryz.func173 (by kernel_rfl) rfl args w
  inside := by
    rintro w i F ⟨rfl, D, fw, o, h⟩ k hk
    exact Nat.lt_of_lt_of_le hk.2 h.top
  keep := by
    rintro w w1 i F ⟨rfl, D, fw, o, h⟩ hk hs
    exact ⟨rfl, D, fw, o, h.keep hk hs⟩
  first := by
    rintro w i F ⟨rfl, D, fw, o, h⟩
    obtain ⟨o', h1, h2⟩ := Db_first h hkb hnb
    exact h.tell h1 h2
  last := by
    rintro w i F ⟨rfl, D, fw, o, h⟩
    obtain ⟨o', h1, h2⟩ := Db_last h hkb hnb
    exact h.tell h1 h2
  next := by
    rintro w i F ⟨rfl, D, fw, o, h⟩
    obtain ⟨fw', o', h1, h2⟩ := Db_next h hkb hnb
    exact h.tell h1 h2
  prev := by
    rintro w i F ⟨rfl, D, fw, o, h⟩
    obtain ⟨fw', o', h1, h2⟩ := Db_prev h hkb hnb
    exact h.tell h1 h2
  seek := by
    rintro w i F ⟨rfl, D, fw, o, h⟩ A c key hA hk hne
    obtain ⟨o', h1, h2⟩ := Db_seek (ca := c) h hkb hnb hA hk hne
    exact h.tell h1 h2
  valid := by
    rintro w i F ⟨rfl, D, fw, o, h⟩
    obtain ⟨ics, hb, hi'⟩ := h.M.blk
    refine (DbValid_calls hb hi' (fun x hx => (h.M.M.S.ok x (h.M.on x hx)).a)).mono ?_
    rintro e w' ⟨rfl, rfl⟩
    exact ⟨_, rfl, Lib.hid h.pl.on.1.symm, Lib.hid ⟨_, ⟨rfl, D, fw, o, h⟩, Fr.refl _ _, fun k hk => .inl hk⟩⟩
  error := by
    rintro w i F ⟨rfl, D, fw, o, h⟩
    obtain ⟨ics, hb, hi'⟩ := h.M.blk
    obtain ⟨A1, n1, c1, B1, m1, d1, hs⟩ := hi'.is
    refine (DbError_calls (hb.cell hs.c8)).mono ?_
    rintro e w' ⟨rfl, rfl⟩
    exact ⟨rfl, Lib.hid ⟨_, ⟨rfl, D, fw, o, h⟩, Fr.refl _ _, fun k hk => .inl hk⟩⟩
  key := by
    rintro w i F ⟨rfl, D, fw, o, h⟩
    obtain ⟨ics, hb, hi'⟩ := h.M.blk
    have hm : Mv (DbSt base p V f ns kb nb it sv st lim lo hi) w (fun k => lo ≤ k ∧ k < hi) i w := ⟨_, ⟨rfl, D, fw, o, h⟩, Fr.refl _ _, fun k hk => .inl hk⟩
    cases o with
    | none =>
      have hs : Is ics p sv 0 fw nilS nilS := hi'
      refine (DbKey_calls (hb.cell hs.c6)).mono ?_
      rintro e w' ⟨rfl, rfl⟩
      rw [h.pl.on.2.1]
      exact ⟨none, 0, rfl, Lib.hid (Kd.C_nil _ _), Lib.hid hm⟩
    | some x =>
      obtain ⟨A, c, B, d, hs, _, _, hc, _⟩ := hi'
      refine (DbKey_calls (hb.cell hs.c6)).mono ?_
      rintro e w' ⟨rfl, rfl⟩
      rw [h.pl.on.2.1]
      exact ⟨A, c, rfl, Lib.hid (hc w (ints_C (own_reads' h.M.M.T.kv))), Lib.hid hm⟩
  value := by
    rintro w i F ⟨rfl, D, fw, o, h⟩
    obtain ⟨ics, hb, hi'⟩ := h.M.blk
    have hm : Mv (DbSt base p V f ns kb nb it sv st lim lo hi) w (fun k => lo ≤ k ∧ k < hi) i w := ⟨_, ⟨rfl, D, fw, o, h⟩, Fr.refl _ _, fun k hk => .inl hk⟩
    cases o with
    | none =>
      have hs : Is ics p sv 0 fw nilS nilS := hi'
      refine (DbValue_calls (hb.cell hs.c7)).mono ?_
      rintro e w' ⟨rfl, rfl⟩
      rw [h.pl.on.2.2]
      exact ⟨none, 0, rfl, Lib.hid (Kd.C_nil _ _), Lib.hid hm⟩
    | some x =>
      obtain ⟨A, c, B, d, hs, _, _, _, hc⟩ := hi'
      refine (DbValue_calls (hb.cell hs.c7)).mono ?_
      rintro e w' ⟨rfl, rfl⟩
      rw [h.pl.on.2.2]
      exact ⟨B, d, rfl, Lib.hid (hc w (ints_C (own_reads' h.M.M.T.kv))), Lib.hid hm⟩
end

end Go.Proofs.YtdkkkikcigjlhaaGreatDoor.Md
