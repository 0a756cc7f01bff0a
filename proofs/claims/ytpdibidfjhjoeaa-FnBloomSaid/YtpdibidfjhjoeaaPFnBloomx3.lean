-- PRINTED BY print.sh 35421559b90ae4d0a3588c463048766b98c2df88dd9212a6774a882060cdf62d: not written by this session
import Derived.Test.YtpdibidfjhjoeaaPFnBloomx0
import Derived.Test.YtpdibidfjhjoeaaPFnBloomx1
namespace Go.Proofs.Ytpdibidfjhjoeaa.PFnBloom
open Go.RowKit Go.Proofs.YtpdibidfjhjoeaaW.PrintWords Go.Proofs.YtpdibidfjhjoeaaW.PrintLast Go.Proofs.YtpdibidfjhjoeaaW.PrintMore
attribute [local go_sem] max2_int min2_int max_two min_two max_three min_three max_four min_four   -- for this text's walks alone
set_option linter.unusedVariables false
set_option linter.unusedSimpArgs false

/-! ### spec_BloomHas: function 9 -/
def spec_BloomHas.l0 : Nat → List Int → List Int → Int → Option (Bool)
  | 0, _, _, _ => none
  | k + 1, x0, x6, x7 => if x7 < (x6.length : Int) then (if 0 ≤ x7 then (if 0 ≤ (wrap64 (Int.tdiv (rd x6 x7) 8)) then (if (wrap64 (Int.tdiv (rd x6 x7) 8)) < (x0.length : Int) then (if 0 ≤ (IntKind.u64.wrap (Int.tmod (rd x6 x7) 8)) then (if (Go.bits .and .u8 (shr .u8 (rd x0 (wrap64 (Int.tdiv (rd x6 x7) 8))) (IntKind.u64.wrap (Int.tmod (rd x6 x7) 8))) 1) = 0 then (some false) else (spec_BloomHas.l0 k x0 x6 (wrap64 (x7 + 1)))) else (none)) else (none)) else (none)) else (none)) else (some true)
def spec_BloomHas.f (k : Nat) (l0 : List Int) (l1 : List Int) : Option (Bool) := if (l0.length : Int) < 2 then (some false) else (if 0 ≤ (wrap64 ((l0.length : Int) - 1)) then (if (wrap64 ((l0.length : Int) - 1)) < (l0.length : Int) then (if (wrap64 (rd l0 (wrap64 ((l0.length : Int) - 1)))) > 30 then (some true) else ((spec_BloomPlaces.f k l1 (wrap64 (8 * (wrap64 ((l0.length : Int) - 1)))) (wrap64 (rd l0 (wrap64 ((l0.length : Int) - 1))))).bind fun t135 => (spec_BloomHas.l0 k l0 t135 0))) else (none)) else (none))
theorem spec_BloomHas.mono_l : ∀ k, (∀ y0 y1 y2, LeO (spec_BloomHas.l0 k y0 y1 y2) (spec_BloomHas.l0 (k + 1) y0 y1 y2))
  | 0 => fun _ _ _ r h => by simp [spec_BloomHas.l0] at h
  | k + 1 => by
    have ih0 := spec_BloomHas.mono_l k
    · intro y0 y1 y2
      unfold spec_BloomHas.l0
      repeat' first
      | (with_reducible exact ih0 _ _ _)
      | (with_reducible exact spec_BloomPlaces.mono _ _ _ _)
      | (with_reducible exact LeO.refl _)
      | (with_reducible exact LeO.none _)
      | (with_reducible refine LeO.ite ?_ ?_)
      | (with_reducible refine LeO.bind ?_ (fun _ => ?_))
      | exact ih0 _ _ _
      | exact spec_BloomPlaces.mono _ _ _ _
      | exact LeO.none _
      | refine LeO.ite ?_ ?_
      | refine LeO.bind ?_ (fun _ => ?_)
theorem spec_BloomHas.mono : ∀ a0 a1 k, LeO (spec_BloomHas.f k a0 a1) (spec_BloomHas.f (k + 1) a0 a1) := by
  intro a0 a1 k
  have ih0 := spec_BloomHas.mono_l k
  unfold spec_BloomHas.f
  repeat' first
      | (with_reducible exact ih0 _ _ _)
      | (with_reducible exact spec_BloomPlaces.mono _ _ _ _)
      | (with_reducible exact LeO.refl _)
      | (with_reducible exact LeO.none _)
      | (with_reducible refine LeO.ite ?_ ?_)
      | (with_reducible refine LeO.bind ?_ (fun _ => ?_))
      | exact ih0 _ _ _
      | exact spec_BloomPlaces.mono _ _ _ _
      | exact LeO.none _
      | refine LeO.ite ?_ ?_
      | refine LeO.bind ?_ (fun _ => ?_)
set_option maxHeartbeats 8000000 in
set_option maxRecDepth 100000 in
theorem spec_BloomHas.calls (k : Nat) (A0 : Option Addr) (c0 : Nat) (l0 : List Int) (A1 : Option Addr) (c1 : Nat) (l1 : List Int) (r : Bool) (w : World) (hr0 : Kd.C (Kd.int .u8) w A0 l0.length l0) (hc0 : l0.length ≤ c0) (hr1 : Kd.C (Kd.int .u8) w A1 l1.length l1) (hc1 : l1.length ≤ c1) (h : spec_BloomHas.f k l0 l1 = some r) :
    Calls Try.prog 9 #[.slice A0 l0.length c0, .slice A1 l1.length c1] w fun e w' => e = .returned (.bool r) ∧ Below w.heap.size w w' := by
  have HR0 := Aside0.mk hr0
  have HC0 := Aside0.mk hc0
  clear hr0 hc0
  have HR1 := Aside0.mk hr1
  have HC1 := Aside0.mk hc1
  clear hr1 hc1
  have HB := Aside0.mk (Below.refl w.heap.size w)
  have H : (if (l0.length : Int) < 2 then (some false) else (if 0 ≤ (wrap64 ((l0.length : Int) - 1)) then (if (wrap64 ((l0.length : Int) - 1)) < (l0.length : Int) then (if (wrap64 (rd l0 (wrap64 ((l0.length : Int) - 1)))) > 30 then (some true) else ((spec_BloomPlaces.f k l1 (wrap64 (8 * (wrap64 ((l0.length : Int) - 1)))) (wrap64 (rd l0 (wrap64 ((l0.length : Int) - 1))))).bind fun t135 => (spec_BloomHas.l0 k l0 t135 0))) else (none)) else (none))) = some r := h
  clear h
  by_cases c3 : (l0.length : Int) < 2
  · rw [if_pos c3] at H
    have c3b0 : decide ((l0.length : Int) < 2) = true := decide_eq_true c3
    have c3b1 : decide (l0.length < 2) = true := decide_eq_true (by omega)
    clear c3
    obtain rfl := Option.some.inj H
    go_enter Try.func9, Try.ntmps9
    go_wp2
    repeat (go_quiet (fail); try go_wp2)
    go_ret
    exact ⟨by first | rfl | (simp [errW_none, errW_some] <;> rfl) | (simp [*, errW_none, errW_some] <;> rfl), by repeat (first | (with_reducible first | exact HB.out | apply below_alloc | apply pw_below_drewN | apply below_drew1) | exact HB.out)⟩
  · rw [if_neg c3] at H
    have c3b0 : decide ((l0.length : Int) < 2) = false := decide_eq_false c3
    have c3b1 : decide (l0.length < 2) = false := decide_eq_false (by omega)
    clear c3
    obtain ⟨ji4, hji4⟩ : ∃ j_ : Int, (wrap64 ((l0.length : Int) - 1)) = j_ := ⟨_, rfl⟩
    replace H : (if 0 ≤ (ji4) then (if (ji4) < (l0.length : Int) then (if (wrap64 (rd l0 (ji4))) > 30 then (some true) else ((spec_BloomPlaces.f k l1 (wrap64 (8 * (ji4))) (wrap64 (rd l0 (ji4)))).bind fun t135 => (spec_BloomHas.l0 k l0 t135 0))) else (none)) else (none)) = some r := by first | (rw [hji4] at H; exact H) | (simp only [hji4] at H ⊢; exact H)
    have hji4w : (IntKind.i64.wrap ((l0.length : Int) - 1)) = ji4 := (i64_w _).trans hji4
    by_cases c5 : 0 ≤ (ji4)
    · rw [if_pos c5] at H
      have c5b0 : decide (0 ≤ (ji4)) = true := decide_eq_true c5
      clear c5
      by_cases c6 : (ji4) < (l0.length : Int)
      · rw [if_pos c6] at H
        have c6b0 : decide ((ji4) < (l0.length : Int)) = true := decide_eq_true c6
        clear c6
        by_cases c7 : (wrap64 (rd l0 (ji4))) > 30
        · rw [if_pos c7] at H
          have c7b0 : decide (30 < (wrap64 (rd l0 (ji4)))) = true := decide_eq_true c7
          clear c7
          obtain rfl := Option.some.inj H
          have p134 : 0 ≤ ((ji4) : Int) := of_decide_eq_true (by first | (with_reducible assumption) | assumption)
          have q134 : (ji4) < (l0.length : Int) := of_decide_eq_true (by first | (with_reducible assumption) | assumption)
          obtain ⟨ad134, e134, hx134_0⟩ := Kd.at_int HR0.out (ji4) p134 q134
          cases e134
          replace p134 := eq_true p134
          replace q134 := eq_true q134
          go_enter Try.func9, Try.ntmps9
          go_wp2
          repeat (go_quiet (fail); try go_wp2)
          go_ret
          exact ⟨by first | rfl | (simp [errW_none, errW_some] <;> rfl) | (simp only [← hji4]; first | rfl | (simp [errW_none, errW_some] <;> rfl)) | (simp [*, errW_none, errW_some] <;> rfl), by repeat (first | (with_reducible first | exact HB.out | apply below_alloc | apply pw_below_drewN | apply below_drew1) | exact HB.out)⟩
        · rw [if_neg c7] at H
          have c7b0 : decide (30 < (wrap64 (rd l0 (ji4)))) = false := decide_eq_false c7
          clear c7
          replace H := Option.bind_eq_some_iff.mp H
          obtain ⟨t135, A80, H⟩ := H
          replace H : (spec_BloomHas.l0 k l0 t135 0) = some r := H
          have A8 := Aside0.mk A80
          clear A80
          have H' := Aside0.mk H
          clear H
          have p134 : 0 ≤ ((ji4) : Int) := of_decide_eq_true (by first | (with_reducible assumption) | assumption)
          have q134 : (ji4) < (l0.length : Int) := of_decide_eq_true (by first | (with_reducible assumption) | assumption)
          obtain ⟨ad134, e134, hx134_0⟩ := Kd.at_int HR0.out (ji4) p134 q134
          cases e134
          replace p134 := eq_true p134
          replace q134 := eq_true q134
          go_enter Try.func9, Try.ntmps9
          go_wp2_with (first | (go_at_call 14; (with_reducible refine (spec_BloomPlaces.calls k _ _ l1 (wrap64 (8 * (ji4))) (wrap64 (rd l0 (ji4))) t135 _ ?side1 ?side2 A8.out).mono ?_); (case side1 => repeat (first | exact HR1.out | (with_reducible refine Kd.C_alloc ?_ _) | (with_reducible refine Kd.C_drewN ?_ _) | (with_reducible refine Kd.C_drew ?_))); (case side2 => exact HC1.out); rintro e w9 ⟨v136, rfl, ho0, hb⟩; have n0_ := Aside0.mk (Kd.R_lower ho0 (below_size (by repeat (first | (with_reducible first | exact HB.out | apply below_alloc | apply pw_below_drewN | apply below_drew1) | exact HB.out)))); have n1_ := Aside0.mk (below_step (by repeat (first | (with_reducible first | exact HB.out | apply below_alloc | apply pw_below_drewN | apply below_drew1) | exact HB.out)) hb); clear HB; have HO137 := n0_; have HB := n1_; clear n0_ n1_; (try clear hb); (try clear hb2); (try clear hk); (try clear hi); (try clear ho0)))
          repeat (go_quiet (first | (go_at_call 14; (with_reducible refine (spec_BloomPlaces.calls k _ _ l1 (wrap64 (8 * (ji4))) (wrap64 (rd l0 (ji4))) t135 _ ?side1 ?side2 A8.out).mono ?_); (case side1 => repeat (first | exact HR1.out | (with_reducible refine Kd.C_alloc ?_ _) | (with_reducible refine Kd.C_drewN ?_ _) | (with_reducible refine Kd.C_drew ?_))); (case side2 => exact HC1.out); rintro e w9 ⟨v136, rfl, ho0, hb⟩; have n0_ := Aside0.mk (Kd.R_lower ho0 (below_size (by repeat (first | (with_reducible first | exact HB.out | apply below_alloc | apply pw_below_drewN | apply below_drew1) | exact HB.out)))); have n1_ := Aside0.mk (below_step (by repeat (first | (with_reducible first | exact HB.out | apply below_alloc | apply pw_below_drewN | apply below_drew1) | exact HB.out)) hb); clear HB; have HO137 := n0_; have HB := n1_; clear n0_ n1_; (try clear hb); (try clear hb2); (try clear hk); (try clear hi); (try clear ho0))); try go_wp2_with (first | (go_at_call 14; (with_reducible refine (spec_BloomPlaces.calls k _ _ l1 (wrap64 (8 * (ji4))) (wrap64 (rd l0 (ji4))) t135 _ ?side1 ?side2 A8.out).mono ?_); (case side1 => repeat (first | exact HR1.out | (with_reducible refine Kd.C_alloc ?_ _) | (with_reducible refine Kd.C_drewN ?_ _) | (with_reducible refine Kd.C_drew ?_))); (case side2 => exact HC1.out); rintro e w9 ⟨v136, rfl, ho0, hb⟩; have n0_ := Aside0.mk (Kd.R_lower ho0 (below_size (by repeat (first | (with_reducible first | exact HB.out | apply below_alloc | apply pw_below_drewN | apply below_drew1) | exact HB.out)))); have n1_ := Aside0.mk (below_step (by repeat (first | (with_reducible first | exact HB.out | apply below_alloc | apply pw_below_drewN | apply below_drew1) | exact HB.out)) hb); clear HB; have HO137 := n0_; have HB := n1_; clear n0_ n1_; (try clear hb); (try clear hb2); (try clear hk); (try clear hi); (try clear ho0))))
          go_loopg [7] k (fun kq v7 w' => ∃ (x7_1 : Int), v7 = .int .i64 x7_1 ∧ Aside0 (spec_BloomHas.l0 kq l0 t135 x7_1 = some r) ∧ Aside0 (kq ≤ k) ∧ Aside0 (Kd.R (Kd.int .i64) 3 w' w.heap.size (fun _ => True) v136 t135) ∧ Aside0 (Below w.heap.size w w'))
          case atStart => exact ⟨(0), (by first | rfl | (simp; done) | (simp [*]; done)), H', ⟨Nat.le_refl _⟩, ⟨by (with_reducible repeat (first | apply Kd.R_alloc | apply Kd.R_drewN | apply Kd.R_drew)); exact HO137.out⟩, ⟨by repeat (first | (with_reducible first | exact HB.out | apply below_alloc | apply pw_below_drewN | apply below_drew1) | exact HB.out)⟩⟩
          case round =>
            clear H'
            try clear c1
            try clear p1
            try clear q1
            try clear hx1
            try clear p2
            try clear c3
            try clear c3b0
            try clear c3b1
            try clear c5
            try clear c5b0
            try clear c6
            try clear c6b0
            try clear p6
            try clear c7
            try clear c7b0
            try clear c9
            try clear hx134_0
            try clear p134
            try clear q134
            obtain ⟨x7_1, rfl, HA, HK1, HO_6, HB⟩ := hrel
            cases gk with
            | zero => exact absurd HA.out (by simp [spec_BloomHas.l0])
            | succ k1 =>
              have H := HA.out
              clear HA
              simp only [spec_BloomHas.l0] at H
              by_cases c10 : x7_1 < (t135.length : Int)
              · rw [if_pos c10] at H
                have c10b0 : decide (x7_1 < (t135.length : Int)) = true := decide_eq_true c10
                clear c10
                by_cases c11 : 0 ≤ x7_1
                · rw [if_pos c11] at H
                  have c11b0 : decide (0 ≤ x7_1) = true := decide_eq_true c11
                  clear c11
                  obtain ⟨ji12, hji12⟩ : ∃ j_ : Int, (wrap64 (Int.tdiv (rd t135 x7_1) 8)) = j_ := ⟨_, rfl⟩
                  replace H : (if 0 ≤ (ji12) then (if (ji12) < (l0.length : Int) then (if 0 ≤ (IntKind.u64.wrap (Int.tmod (rd t135 x7_1) 8)) then (if (Go.bits .and .u8 (shr .u8 (rd l0 (ji12)) (IntKind.u64.wrap (Int.tmod (rd t135 x7_1) 8))) 1) = 0 then (some false) else (spec_BloomHas.l0 k1 l0 t135 (wrap64 (x7_1 + 1)))) else (none)) else (none)) else (none)) = some r := by first | (rw [hji12] at H; exact H) | (simp only [hji12] at H ⊢; exact H)
                  have hji12w : (IntKind.i64.wrap (Int.tdiv (rd t135 x7_1) 8)) = ji12 := (i64_w _).trans hji12
                  by_cases c13 : 0 ≤ (ji12)
                  · rw [if_pos c13] at H
                    have c13b0 : decide (0 ≤ (ji12)) = true := decide_eq_true c13
                    clear c13
                    by_cases c14 : (ji12) < (l0.length : Int)
                    · rw [if_pos c14] at H
                      have c14b0 : decide ((ji12) < (l0.length : Int)) = true := decide_eq_true c14
                      clear c14
                      obtain ⟨ji15, hji15⟩ : ∃ j_ : Int, (IntKind.u64.wrap (Int.tmod (rd t135 x7_1) 8)) = j_ := ⟨_, rfl⟩
                      replace H : (if 0 ≤ (ji15) then (if (Go.bits .and .u8 (shr .u8 (rd l0 (ji12)) (ji15)) 1) = 0 then (some false) else (spec_BloomHas.l0 k1 l0 t135 (wrap64 (x7_1 + 1)))) else (none)) = some r := by first | (rw [hji15] at H; exact H) | (simp only [hji15] at H ⊢; exact H)
                      by_cases c16 : 0 ≤ (ji15)
                      · rw [if_pos c16] at H
                        have c16b0 := eq_true c16
                        have c16b1 : decide (0 ≤ (ji15)) = true := decide_eq_true c16
                        clear c16
                        obtain ⟨ji17, hji17⟩ : ∃ j_ : Int, (shr .u8 (rd l0 (ji12)) (ji15)) = j_ := ⟨_, rfl⟩
                        replace H : (if (Go.bits .and .u8 (ji17) 1) = 0 then (some false) else (spec_BloomHas.l0 k1 l0 t135 (wrap64 (x7_1 + 1)))) = some r := by first | (rw [hji17] at H; exact H) | (simp only [hji17] at H ⊢; exact H)
                        have hji17_ : ((rd l0 (ji12)) / 2 ^ min (ji15).toNat 8) = ji17 := hji17
                        have hji17z : (ji15) ≤ 8 → ((rd l0 (ji12)) / 2 ^ (ji15).toNat) = ji17 := shr_small hji17
                        by_cases c18 : (Go.bits .and .u8 (ji17) 1) = 0
                        · rw [if_pos c18] at H
                          have c18b0 : ((Go.bits .and .u8 (ji17) 1) == 0) = true := beq_iff_eq.mpr c18
                          have c18b1 : ((Go.bits .and .u8 (ji17) 1) != 0) = false := bne_eq_false_iff_eq.mpr c18
                          clear c18
                          obtain rfl := Option.some.inj H
                          obtain ⟨Ao19, co19, eo19⟩ := Kd.R_slice HO_6.out
                          subst eo19
                          have p138 : 0 ≤ (x7_1 : Int) := of_decide_eq_true (by first | (with_reducible assumption) | assumption)
                          have q138 : x7_1 < (t135.length : Int) := of_decide_eq_true (by first | (with_reducible assumption) | assumption)
                          obtain ⟨ad138, e138, hx138_0⟩ := Kd.at_int (Kd.R_reads' HO_6.out).2.2 x7_1 p138 q138
                          cases e138
                          replace p138 := eq_true p138
                          replace q138 := eq_true q138
                          have p139 : 0 ≤ ((ji12) : Int) := of_decide_eq_true (by first | (with_reducible assumption) | assumption)
                          have q139 : (ji12) < (l0.length : Int) := of_decide_eq_true (by first | (with_reducible assumption) | assumption)
                          obtain ⟨ad139, e139, hx139_0⟩ := Kd.at_int HR0.out (ji12) p139 q139
                          obtain rfl : ad134 = ad139 := (by injection e139)
                          replace hx139_0 := (HB.out.cell (World.block_lt_of_cell? w _ hx139_0)).trans hx139_0
                          replace p139 := eq_true p139
                          replace q139 := eq_true q139
                          have p140 : 0 ≤ (x7_1 : Int) := of_decide_eq_true (by first | (with_reducible assumption) | assumption)
                          have q140 : x7_1 < (t135.length : Int) := of_decide_eq_true (by first | (with_reducible assumption) | assumption)
                          obtain ⟨ad140, e140, hx140_0⟩ := Kd.at_int (Kd.R_reads' HO_6.out).2.2 x7_1 p140 q140
                          obtain rfl : ad138 = ad140 := (by injection e140)
                          replace p140 := eq_true p140
                          replace q140 := eq_true q140
                          go_wp2
                          repeat (go_quiet (fail); try go_wp2)
                          go_ret
                          exact ⟨by first | rfl | (simp [errW_none, errW_some] <;> rfl) | (simp only [← hji4, ← hji12, ← hji15, ← hji17]; first | rfl | (simp [errW_none, errW_some] <;> rfl)) | (simp [*, errW_none, errW_some] <;> rfl), by repeat (first | (with_reducible first | exact HB.out | apply below_alloc | apply pw_below_drewN | apply below_drew1) | exact HB.out)⟩
                        · rw [if_neg c18] at H
                          have c18b0 : ((Go.bits .and .u8 (ji17) 1) == 0) = false := beq_eq_false_iff_ne.mpr c18
                          have c18b1 : ((Go.bits .and .u8 (ji17) 1) != 0) = true := bne_iff_ne.mpr c18
                          have H' := Aside0.mk H
                          clear H
                          obtain ⟨Ao20, co20, eo20⟩ := Kd.R_slice HO_6.out
                          subst eo20
                          have p138 : 0 ≤ (x7_1 : Int) := of_decide_eq_true (by first | (with_reducible assumption) | assumption)
                          have q138 : x7_1 < (t135.length : Int) := of_decide_eq_true (by first | (with_reducible assumption) | assumption)
                          obtain ⟨ad138, e138, hx138_0⟩ := Kd.at_int (Kd.R_reads' HO_6.out).2.2 x7_1 p138 q138
                          cases e138
                          replace p138 := eq_true p138
                          replace q138 := eq_true q138
                          have p139 : 0 ≤ ((ji12) : Int) := of_decide_eq_true (by first | (with_reducible assumption) | assumption)
                          have q139 : (ji12) < (l0.length : Int) := of_decide_eq_true (by first | (with_reducible assumption) | assumption)
                          obtain ⟨ad139, e139, hx139_0⟩ := Kd.at_int HR0.out (ji12) p139 q139
                          obtain rfl : ad134 = ad139 := (by injection e139)
                          replace hx139_0 := (HB.out.cell (World.block_lt_of_cell? w _ hx139_0)).trans hx139_0
                          replace p139 := eq_true p139
                          replace q139 := eq_true q139
                          have p140 : 0 ≤ (x7_1 : Int) := of_decide_eq_true (by first | (with_reducible assumption) | assumption)
                          have q140 : x7_1 < (t135.length : Int) := of_decide_eq_true (by first | (with_reducible assumption) | assumption)
                          obtain ⟨ad140, e140, hx140_0⟩ := Kd.at_int (Kd.R_reads' HO_6.out).2.2 x7_1 p140 q140
                          obtain rfl : ad138 = ad140 := (by injection e140)
                          replace p140 := eq_true p140
                          replace q140 := eq_true q140
                          go_wp2
                          repeat (go_quiet (fail); try go_wp2)
                          go_roundg k1
                          case measure => have := HK1.out; omega
                          case rel => exact ⟨(wrap64 (x7_1 + 1)), (by first | rfl | (simp; done) | (simp [*]; done)), H', ⟨by have := HK1.out; omega⟩, ⟨by (with_reducible repeat (first | apply Kd.R_alloc | apply Kd.R_drewN | apply Kd.R_drew)); exact HO_6.out⟩, ⟨by repeat (first | (with_reducible first | exact HB.out | apply below_alloc | apply pw_below_drewN | apply below_drew1) | exact HB.out)⟩⟩
                      · rw [if_neg c16] at H
                        exact absurd H (by simp)
                    · rw [if_neg c14] at H
                      exact absurd H (by simp)
                  · rw [if_neg c13] at H
                    exact absurd H (by simp)
                · rw [if_neg c11] at H
                  exact absurd H (by simp)
              · rw [if_neg c10] at H
                have c10b0 : decide (x7_1 < (t135.length : Int)) = false := decide_eq_false c10
                clear c10
                obtain rfl := Option.some.inj H
                obtain ⟨Ao21, co21, eo21⟩ := Kd.R_slice HO_6.out
                subst eo21
                go_wp2
                repeat (go_quiet (fail); try go_wp2)
                go_ret
                exact ⟨by first | rfl | (simp [errW_none, errW_some] <;> rfl) | (simp only [← hji4]; first | rfl | (simp [errW_none, errW_some] <;> rfl)) | (simp [*, errW_none, errW_some] <;> rfl), by repeat (first | (with_reducible first | exact HB.out | apply below_alloc | apply pw_below_drewN | apply below_drew1) | exact HB.out)⟩
      · rw [if_neg c6] at H
        exact absurd H (by simp)
    · rw [if_neg c5] at H
      exact absurd H (by simp)

-- NOT PRINTED: function 3 (laws_FnBloom)

end Go.Proofs.Ytpdibidfjhjoeaa.PFnBloom
