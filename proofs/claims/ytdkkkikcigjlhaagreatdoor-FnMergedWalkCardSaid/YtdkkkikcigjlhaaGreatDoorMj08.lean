/- Walks of functions of the reference and of the thin package: a cut of what print.sh prints for FnMemMap. -/
import Derived.Test.YtdkkkikcigjlhaaGreatDoorMj06
import Derived.Test.YtdkkkikcigjlhaaGreatDoorMj07
set_option linter.unusedVariables false
set_option linter.unusedSimpArgs false
namespace Go.Proofs.YtdkkkikcigjlhaaGreatDoor.PFnMemMap
open Go.RowKit Go.Proofs.YtdkkkikcigjlhaaGreatDoorW.PrintWords Go.Proofs.YtdkkkikcigjlhaaGreatDoorW.PrintLast Go.Proofs.YtdkkkikcigjlhaaGreatDoorW.PrintMore
attribute [local go_sem] max2_int min2_int max_two min_two max_three min_three max_four min_four   -- for this text's walks alone

-- NOT PRINTED: function 105 (impl_errOf)

-- NOT PRINTED: function 84 (impl_move)

-- NOT PRINTED: function 61 (impl_walk)

-- NOT PRINTED: function 62 (iterator_NewArrayIterator)

-- NOT PRINTED: function 24 (impl_ArrayWalk)

/-! ### laws_pairs: function 26 -/
def laws_pairs.l0 : Nat → List (S44) → List (S36) → Int → Option ((List (S36)))
  | 0, _, _, _ => none
  | k + 1, x0, x3, x4 => if x4 < (x0.length : Int) then (if 0 ≤ x4 then (if x3.length < 2932031007402 then (laws_pairs.l0 k x0 (x3 ++ [(⟨(rd_T44 x0 x4).f0, (rd_T44 x0 x4).f1⟩ : S36)]) (wrap64 (x4 + 1))) else (none)) else (none)) else (some x3)
def laws_pairs.f (k : Nat) (l0 : List (S44)) : Option ((List (S36))) := laws_pairs.l0 k l0 ([] : List (S36)) 0
def laws_pairs.T5 : Bool × List (List Nat × List Nat) := (true, [([], []), ([], []), ([], []), ([1, 2], [1, 2]), ([3], [3]), ([4], [4]), ([], []), ([], []), ([6, 7], [6, 7]), ([8], [8]), ([9], [9]), ([5, 10], [5, 10]), ([11], [11]), ([0, 12], [0, 12]), ([13, 13, 0, 1, 2, 3, 4, 5, 6, 7, 8, 9, 10, 11, 12, 13], [0, 13])])
def laws_pairs.B5 : List Nat := [0, 0, 0, 6, 14, 30, 0, 0, 192, 448, 960, 2046, 4094, 8191, 16383]
theorem laws_pairs.tab5 : rtab .any (opsOf Tryz.f26 5) = laws_pairs.T5 := by kernel_rfl
theorem laws_pairs.bits5 : waitsOk laws_pairs.T5.2 laws_pairs.B5 = true := by kernel_rfl
set_option maxHeartbeats 8000000 in
set_option maxRecDepth 100000 in
theorem laws_pairs.calls (k : Nat) (P0_ : Nat → Prop) (A0 : Option Addr) (c0 : Nat) (l0 : List (S44)) (r : List (S36)) (w : World) (hs0 : Kd.V k44 44 w w.heap.size (fun k_ => P0_ k_) (.slice A0 l0.length c0) l0) (h : laws_pairs.f k l0 = some r) :
    Calls Tryz.prog 26 #[.slice A0 l0.length c0] w fun e w' => ∃ v0_ : Value, e = .returned (v0_) ∧ Kd.N k36 36 w' w.heap.size (fun k_ => (P0_ k_ ∨ w.heap.size ≤ k_)) v0_ r ∧ Below w.heap.size w w' := by
  have hu36 := Tryz.underlying36
  have HO0 := Aside0.mk (show Kd.V k44 44 w w.heap.size (fun k_ => (P0_ k_ ∨ w.heap.size ≤ k_)) (.slice A0 l0.length c0) l0 from Kd.V_mono hs0 (fun k_ hk => .inl hk))
  have HB := Aside0.mk (Below.refl w.heap.size w)
  have H : (laws_pairs.l0 k l0 ([] : List (S36)) 0) = some r := h
  clear h
  have H' := Aside0.mk H
  clear H
  go_enter Tryz.func26, Tryz.ntmps26
  go_wp2
  go_loopg [3, 4] k (fun kq v3 v4 w' => ∃ (x3_1 : List (S36)) (x4_1 : Int), v4 = .int .i64 x4_1 ∧ Aside0 (laws_pairs.l0 kq l0 x3_1 x4_1 = some r) ∧ Aside0 (kq ≤ k) ∧ Aside0 (Kd.V k44 44 w' w.heap.size (fun k_ => (P0_ k_ ∨ w.heap.size ≤ k_) ∧ some k_ ≠ (v3 : Value).ownBlock) (.slice A0 l0.length c0) l0) ∧ Aside0 (Kd.N k36 36 w' w.heap.size (fun k_ => (P0_ k_ ∨ w.heap.size ≤ k_)) v3 x3_1) ∧ Aside0 (Below w.heap.size w w'))
  case atStart => exact ⟨(([] : List (S36))), (0), (by first | rfl | (simp; done) | (simp [*]; done)), H', ⟨Nat.le_refl _⟩, ⟨by (with_reducible repeat (first | apply Kd.V_alloc | apply Kd.V_drewN | apply Kd.V_drew)); exact Kd.V_mono HO0.out (fun _ hk => ⟨hk, (by simp [Value.ownBlock])⟩)⟩, ⟨by first | exact Kd.S_nil _ _ _ _ _ | exact Kd.N_nil _ _ _ _ _ | exact Kd.V_nil _ _ _ _ _ | exact Kd.Q_nil _ _ _ _ _ | exact Kd.R_nil _ _ _ _ _⟩, ⟨by repeat (first | (with_reducible first | exact HB.out | apply below_alloc | apply pw_below_drewN | apply below_drew1) | exact HB.out)⟩⟩
  case round =>
    clear H'
    obtain ⟨x3_1, x4_1, rfl, HA, HK1, HO_0, HO_3, HB⟩ := hrel
    cases gk with
    | zero => exact absurd HA.out (by simp [laws_pairs.l0])
    | succ k1 =>
      have H := HA.out
      clear HA
      simp only [laws_pairs.l0] at H
      by_cases c2 : x4_1 < (l0.length : Int)
      · rw [if_pos c2] at H
        have c2b0 : decide (x4_1 < (l0.length : Int)) = true := decide_eq_true c2
        clear c2
        by_cases c3 : 0 ≤ x4_1
        · rw [if_pos c3] at H
          have c3b0 : decide (0 ≤ x4_1) = true := decide_eq_true c3
          clear c3
          by_cases c4 : x3_1.length < 2932031007402
          · rw [if_pos c4] at H
            have LMc4 := Aside0.mk c4
            clear c4
            obtain ⟨y127, hy127⟩ : ∃ y_ : List (S36), y_ = (x3_1 ++ [(⟨(rd_T44 l0 x4_1).f0, (rd_T44 l0 x4_1).f1⟩ : S36)]) := ⟨_, rfl⟩
            replace H : (laws_pairs.l0 k1 l0 y127 (wrap64 (x4_1 + 1))) = some r := by first | (rw [hy127]; with_reducible exact H) | (have H2_ := (Option.bind_some _ _).symm.trans H; rw [hy127]; with_reducible exact H2_) | (have H2_ := (Option.bind_some _ _).symm.trans H; with_reducible exact H2_) | with_reducible exact H | (rw [hy127]; exact H) | exact H
            have Ny127 := Aside0.mk hy127
            clear hy127
            have H' := Aside0.mk H
            clear H
            try go_wp2
            have n0_ := Aside0.mk (Kd.V_drew HO_0.out)
            have n1_ := Aside0.mk (Kd.N_drew HO_3.out)
            have n2_ := Aside0.mk (below_drew1 HB.out)
            clear HO_0
            clear HO_3
            clear HB
            have HO_0 := n0_
            have HO_3 := n1_
            have HB := n2_
            clear n0_ n1_ n2_
            have p125 : 0 ≤ (x4_1 : Int) := of_decide_eq_true (by first | (with_reducible assumption) | assumption)
            have q125 : x4_1 < (l0.length : Int) := of_decide_eq_true (by first | (with_reducible assumption) | assumption)
            obtain ⟨ad125, A125_0, c125_0, A125_1, c125_1, e125, hx125_0, hx125_1, hl125_0, hi125_0, hl125_1, hi125_1⟩ := at_T44 (Kd.V_reads' HO_0.out).2.2 x4_1 p125 q125
            cases e125
            obtain ⟨ce125, hce125, hMe125, hcc125⟩ := Kd.V_get HO_0.out z44 x4_1 p125 (by first | exact q125 | exact of_decide_eq_true (by first | (with_reducible assumption) | assumption) | (have e_ := (Kd.V_reads' HO_0.out).1; omega))
            obtain ⟨ua125_0, uc125_0, ua125_1, uc125_1, rfl, ul125_0, ge125_0, ul125_1, ge125_1⟩ := k44_openF hMe125
            have hv125_0 := hcc125 0 _ rfl
            rw [Nat.add_zero] at hv125_0
            replace hv125_0 := Option.some.inj (hv125_0.symm.trans hx125_0)
            injection hv125_0 with hva_ hvn_ hvc_
            rw [hva_] at ge125_0
            rw [hvc_] at ul125_0
            have HL125_0 := Aside0.mk (show Kd.V (Kd.int .u8) 5 _ w.heap.size _ _ ((rd_T44 l0 x4_1).f0) from Kd.V_mk ul125_0 ge125_0)
            clear hva_ hvn_ hvc_ ge125_0 ul125_0
            have hv125_1 := hcc125 1 _ rfl
            rw [add_field _ _ 1 (by omega)] at hv125_1
            replace hv125_1 := Option.some.inj (hv125_1.symm.trans hx125_1)
            injection hv125_1 with hva_ hvn_ hvc_
            rw [hva_] at ge125_1
            rw [hvc_] at ul125_1
            have HL125_1 := Aside0.mk (show Kd.V (Kd.int .u8) 5 _ w.heap.size _ _ ((rd_T44 l0 x4_1).f1) from Kd.V_mk ul125_1 ge125_1)
            clear hva_ hvn_ hvc_ ge125_1 ul125_1
            clear hcc125 hce125
            have HR125_0 := Aside0.mk hi125_0
            have HC125_0 := Aside0.mk hl125_0
            clear hi125_0 hl125_0
            have HR125_1 := Aside0.mk hi125_1
            have HC125_1 := Aside0.mk hl125_1
            clear hi125_1 hl125_1
            replace p125 := eq_true p125
            replace q125 := eq_true q125
            have p126 : 0 ≤ (x4_1 : Int) := of_decide_eq_true (by first | (with_reducible assumption) | assumption)
            have q126 : x4_1 < (l0.length : Int) := of_decide_eq_true (by first | (with_reducible assumption) | assumption)
            obtain ⟨ad126, A126_0, c126_0, A126_1, c126_1, e126, hx126_0, hx126_1, hl126_0, hi126_0, hl126_1, hi126_1⟩ := at_T44 (Kd.V_reads' HO_0.out).2.2 x4_1 p126 q126
            obtain rfl : ad125 = ad126 := (by injection e126)
            obtain ⟨ce126, hce126, hMe126, hcc126⟩ := Kd.V_get HO_0.out z44 x4_1 p126 (by first | exact q126 | exact of_decide_eq_true (by first | (with_reducible assumption) | assumption) | (have e_ := (Kd.V_reads' HO_0.out).1; omega))
            obtain ⟨ua126_0, uc126_0, ua126_1, uc126_1, rfl, ul126_0, ge126_0, ul126_1, ge126_1⟩ := k44_openF hMe126
            have hv126_0 := hcc126 0 _ rfl
            rw [Nat.add_zero] at hv126_0
            replace hv126_0 := Option.some.inj (hv126_0.symm.trans hx126_0)
            injection hv126_0 with hva_ hvn_ hvc_
            rw [hva_] at ge126_0
            rw [hvc_] at ul126_0
            have HL126_0 := Aside0.mk (show Kd.V (Kd.int .u8) 5 _ w.heap.size _ _ ((rd_T44 l0 x4_1).f0) from Kd.V_mk ul126_0 ge126_0)
            clear hva_ hvn_ hvc_ ge126_0 ul126_0
            have hv126_1 := hcc126 1 _ rfl
            rw [add_field _ _ 1 (by omega)] at hv126_1
            replace hv126_1 := Option.some.inj (hv126_1.symm.trans hx126_1)
            injection hv126_1 with hva_ hvn_ hvc_
            rw [hva_] at ge126_1
            rw [hvc_] at ul126_1
            have HL126_1 := Aside0.mk (show Kd.V (Kd.int .u8) 5 _ w.heap.size _ _ ((rd_T44 l0 x4_1).f1) from Kd.V_mk ul126_1 ge126_1)
            clear hva_ hvn_ hvc_ ge126_1 ul126_1
            clear hcc126 hce126
            have HR126_0 := Aside0.mk hi126_0
            have HC126_0 := Aside0.mk hl126_0
            clear hi126_0 hl126_0
            have HR126_1 := Aside0.mk hi126_1
            have HC126_1 := Aside0.mk hl126_1
            clear hi126_1 hl126_1
            replace p126 := eq_true p126
            replace q126 := eq_true q126
            have ea_ := Option.some.inj (hx125_0.symm.trans hx126_0)
            injection ea_ with ea_ en_ ec_
            subst ea_
            subst ec_
            clear en_
            have ea_ := Option.some.inj (hx125_1.symm.trans hx126_1)
            injection ea_ with ea_ en_ ec_
            subst ea_
            subst ec_
            clear en_
            refine start_ (n := 15) (S := fun w' => w'.cell? (ad125.add ((x4_1).toNat * 2)) = some (.slice A125_0 ((rd_T44 l0 x4_1).f0).length c125_0) ∧ w'.cell? ⟨(ad125.add ((x4_1).toNat * 2)).block, (ad125.add ((x4_1).toNat * 2)).off + 1, none⟩ = some (.slice A125_1 ((rd_T44 l0 x4_1).f1).length c125_1) ∧ w'.cell? (ad125.add ((x4_1).toNat * 2)) = some (.slice A125_0 ((rd_T44 l0 x4_1).f0).length c125_0) ∧ w'.cell? ⟨(ad125.add ((x4_1).toNat * 2)).block, (ad125.add ((x4_1).toNat * 2)).off + 1, none⟩ = some (.slice A125_1 ((rd_T44 l0 x4_1).f1).length c125_1)) (ds := [12, 13]) #[false, false, false, false, false, false, false, false, false, false, false, false, false, false, false] (by kernel_rfl) rfl rfl ⟨hx125_0, hx125_1, hx126_0, hx126_1⟩ (fun hHeld => ?_); refine with_tabW laws_pairs.tab5 laws_pairs.bits5 (fun HT_ HW_ => ?_)
            generalize wr.drew = w5 at HO_0 HO_3 HB HL125_0 HL125_1 HL126_0 HL126_1 HR125_0 HR125_1 HR126_0 HR126_1 hx125_0 hx125_1 hx126_0 hx126_1 hHeld ⊢
            refine pure_ (i := 0) (N := some 11) (v := ?_) (a' := ?_) #[true, false, false, false, false, false, false, false, false, false, false, false, false, false, false] rfl rfl (any_of HT_.out (by kernel_rfl)) (fun _ _ _ h => h) (Or.inl ⟨by rfl, ?_⟩) ?_ ?_
            rotate_left
            · intro w'
              go_simp
              with_reducible rfl
            rotate_left
            · simp only [Act.put, List.setIfInBounds_toArray, List.set_cons_zero, List.set_cons_succ, i64_w, i32_w]
              rfl
            refine pure_ (i := 1) (N := some 12) (v := ?_) (a' := ?_) #[true, true, false, false, false, false, false, false, false, false, false, false, false, false, false] rfl rfl (any_of HT_.out (by kernel_rfl)) (fun _ _ _ h => h) (Or.inl ⟨by rfl, ?_⟩) ?_ ?_
            rotate_left
            · intro w'
              go_simp
              with_reducible rfl
            rotate_left
            · simp only [Act.put, List.setIfInBounds_toArray, List.set_cons_zero, List.set_cons_succ, i64_w, i32_w]
              rfl
            refine pure_ (i := 2) (N := some 13) (v := ?_) (a' := ?_) #[true, true, true, false, false, false, false, false, false, false, false, false, false, false, false] rfl rfl (any_of HT_.out (by kernel_rfl)) (fun _ _ _ h => h) (Or.inl ⟨by rfl, ?_⟩) ?_ ?_
            rotate_left
            · intro w'
              go_simp
              with_reducible rfl
            rotate_left
            · simp only [Act.put, List.setIfInBounds_toArray, List.set_cons_zero, List.set_cons_succ, i64_w, i32_w]
              rfl
            refine pure_ (i := 3) (N := some 14) (v := ?_) (a' := ?_) #[true, true, true, true, false, false, false, false, false, false, false, false, false, false, false] rfl rfl (any_of HT_.out (by kernel_rfl)) (fun _ _ _ h => h) (Or.inl ⟨by rfl, ?_⟩) ?_ ?_
            rotate_left
            · intro w'
              go_simp
              with_reducible rfl
            rotate_left
            · simp only [Act.put, List.setIfInBounds_toArray, List.set_cons_zero, List.set_cons_succ, i64_w, i32_w]
              rfl
            refine pure_ (i := 4) (N := some 15) (v := ?_) (a' := ?_) #[true, true, true, true, true, false, false, false, false, false, false, false, false, false, false] rfl rfl (any_of HT_.out (by kernel_rfl)) (fun _ _ _ h => h) (Or.inl ⟨by rfl, ?_⟩) ?_ ?_
            rotate_left
            · intro w'
              go_simp
              with_reducible rfl
            rotate_left
            · simp only [Act.put, List.setIfInBounds_toArray, List.set_cons_zero, List.set_cons_succ, i64_w, i32_w]
              rfl
            refine pure_ (i := 6) (N := some 17) (v := ?_) (a' := ?_) #[true, true, true, true, true, false, true, false, false, false, false, false, false, false, false] rfl rfl (any_of HT_.out (by kernel_rfl)) (fun _ _ _ h => h) (Or.inl ⟨by rfl, ?_⟩) ?_ ?_
            rotate_left
            · intro w'
              go_simp
              with_reducible rfl
            rotate_left
            · simp only [Act.put, List.setIfInBounds_toArray, List.set_cons_zero, List.set_cons_succ, i64_w, i32_w]
              rfl
            refine pure_ (i := 7) (N := some 18) (v := ?_) (a' := ?_) #[true, true, true, true, true, false, true, true, false, false, false, false, false, false, false] rfl rfl (any_of HT_.out (by kernel_rfl)) (fun _ _ _ h => h) (Or.inl ⟨by rfl, ?_⟩) ?_ ?_
            rotate_left
            · intro w'
              go_simp
              with_reducible rfl
            rotate_left
            · simp only [Act.put, List.setIfInBounds_toArray, List.set_cons_zero, List.set_cons_succ, i64_w, i32_w]
              rfl
            refine pure_ (i := 8) (N := some 19) (v := ?_) (a' := ?_) #[true, true, true, true, true, false, true, true, true, false, false, false, false, false, false] rfl rfl (any_of HT_.out (by kernel_rfl)) (fun _ _ _ h => h) (Or.inl ⟨by rfl, ?_⟩) ?_ ?_
            rotate_left
            · intro w'
              go_simp
              with_reducible rfl
            rotate_left
            · simp only [Act.put, List.setIfInBounds_toArray, List.set_cons_zero, List.set_cons_succ, i64_w, i32_w]
              rfl
            refine pure_ (i := 9) (N := some 20) (v := ?_) (a' := ?_) #[true, true, true, true, true, false, true, true, true, true, false, false, false, false, false] rfl rfl (any_of HT_.out (by kernel_rfl)) (fun _ _ _ h => h) (Or.inl ⟨by rfl, ?_⟩) ?_ ?_
            rotate_left
            · intro w'
              go_simp
              with_reducible rfl
            rotate_left
            · simp only [Act.put, List.setIfInBounds_toArray, List.set_cons_zero, List.set_cons_succ, i64_w, i32_w]
              rfl
            refine take_ (i := 5) (N := some 16) (v := ?_) (a' := ?_) #[true, true, true, true, true, true, true, true, true, true, false, false, false, false, false] rfl rfl (take_ofW HT_.out HW_.out (by kernel_rfl)) (fun _ _ _ h => h) (Or.inl ⟨by rfl, ?_⟩) hHeld ?_ ?_
            rotate_left
            · rintro w' ⟨s0, s1, s2, s3⟩
              go_simp
              with_reducible rfl
            rotate_left
            · simp only [Act.put, List.setIfInBounds_toArray, List.set_cons_zero, List.set_cons_succ, i64_w, i32_w]
              rfl
            refine take_ (i := 10) (N := some 21) (v := ?_) (a' := ?_) #[true, true, true, true, true, true, true, true, true, true, true, false, false, false, false] rfl rfl (take_ofW HT_.out HW_.out (by kernel_rfl)) (fun _ _ _ h => h) (Or.inl ⟨by rfl, ?_⟩) hHeld ?_ ?_
            rotate_left
            · rintro w' ⟨s0, s1, s2, s3⟩
              go_simp
              with_reducible rfl
            rotate_left
            · simp only [Act.put, List.setIfInBounds_toArray, List.set_cons_zero, List.set_cons_succ, i64_w, i32_w]
              rfl
            refine pure_ (i := 11) (N := some 22) (v := ?_) (a' := ?_) #[true, true, true, true, true, true, true, true, true, true, true, true, false, false, false] rfl rfl (any_of HT_.out (by kernel_rfl)) (fun _ _ _ h => h) (Or.inl ⟨by rfl, ?_⟩) ?_ ?_
            rotate_left
            · intro w'
              go_simp
              with_reducible rfl
            rotate_left
            · simp only [Act.put, List.setIfInBounds_toArray, List.set_cons_zero, List.set_cons_succ, i64_w, i32_w]
              rfl
            refine last_ (i := 12) (N := some 23) #[true, true, true, true, true, true, true, true, true, true, true, true, true, false, false] rfl rfl (one_of HT_.out (by kernel_rfl)) (by decide) (fun K hK => ?_)
            refine value_ (w1 := ?_) (v := ?_) (by rfl) rfl ?_ ?_
            rotate_left 2
            · go_simp
              constructor
              · rfl
              · rfl
            refine hK.out _ _ ?_
            clear hK K
            refine norm_ (a' := ?_) ?_ ?_
            rotate_left
            · show Act.put _ (some 23) _ = _
              simp only [Act.put, List.setIfInBounds_toArray, List.set_cons_zero, List.set_cons_succ, i64_w, i32_w]
              rfl
            refine last_ (i := 13) (N := some 24) #[true, true, true, true, true, true, true, true, true, true, true, true, true, true, false] rfl rfl (one_of HT_.out (by kernel_rfl)) (by decide) (fun K hK => ?_)
            refine Kd.N_append_step k36 (w0 := w) w.heap.size (by rfl) (.tmp 11) (.tmp 23) 31 36 (.agg #[(.slice none 0 0), (.slice none 0 0)]) 48 rfl Tryz.underlying31 info36 rfl (by decide) (by omega) u3 x3_1 (⟨(rd_T44 l0 x4_1).f0, (rd_T44 l0 x4_1).f1⟩ : S36) [.slice A125_0 ((rd_T44 l0 x4_1).f0).length c125_0, .slice A125_1 ((rd_T44 l0 x4_1).f1).length c125_1] (fun k_ => (P0_ k_ ∨ w.heap.size ≤ k_)) (fun k_ => ((fun k_ => (P0_ k_ ∨ w.heap.size ≤ k_))) k_ ∧ some k_ ≠ (u3 : Value).ownBlock) rfl rfl ?aP (fun _ hk => hk) ?aF ?aO ?aB ?aS ?aL ?_
            (case aP => exact (k36_mkF _ _ (⟨(rd_T44 l0 x4_1).f0, (rd_T44 l0 x4_1).f1⟩ : S36) (Kd.V_reads' (Kd.V_mono (ok' := (fun k_ => ((fun k_ => (P0_ k_ ∨ w.heap.size ≤ k_))) k_ ∧ some k_ ≠ (u3 : Value).ownBlock)) (HL125_0.out) (fun k_ hk => ⟨hk.1, hk.2⟩))).2.1 (Kd.V_F (Kd.V_mono (ok' := (fun k_ => ((fun k_ => (P0_ k_ ∨ w.heap.size ≤ k_))) k_ ∧ some k_ ≠ (u3 : Value).ownBlock)) (HL125_0.out) (fun k_ hk => ⟨hk.1, hk.2⟩))) (Kd.V_reads' (Kd.V_mono (ok' := (fun k_ => ((fun k_ => (P0_ k_ ∨ w.heap.size ≤ k_))) k_ ∧ some k_ ≠ (u3 : Value).ownBlock)) (HL126_1.out) (fun k_ hk => ⟨hk.1, hk.2⟩))).2.1 (Kd.V_F (Kd.V_mono (ok' := (fun k_ => ((fun k_ => (P0_ k_ ∨ w.heap.size ≤ k_))) k_ ∧ some k_ ≠ (u3 : Value).ownBlock)) (HL126_1.out) (fun k_ hk => ⟨hk.1, hk.2⟩)))))
            (case aB => exact (by repeat (first | (with_reducible first | exact HB.out | apply below_alloc | apply pw_below_drewN | apply below_drew1) | exact HB.out)))
            (case aF => exact (fun k_ hk => (.inr (Nat.le_trans (below_size (by repeat (first | (with_reducible first | exact HB.out | apply below_alloc | apply pw_below_drewN | apply below_drew1) | exact HB.out))) hk))))
            (case aO => exact (by (with_reducible repeat (first | apply Kd.N_alloc | apply Kd.N_drewN | apply Kd.N_drew)); exact HO_3.out))
            (case aS => exact (below_size (by repeat (first | (with_reducible first | exact HB.out | apply below_alloc | apply pw_below_drewN | apply below_drew1) | exact HB.out))))
            (case aL => have := LMc4.out; omega)
            intro v128 w6 ho hb hg hat
            rw [← Ny127.out] at ho
            have n0_ := Aside0.mk (Kd.V_afterv (ok := (fun k_ => (P0_ k_ ∨ w.heap.size ≤ k_))) (by (with_reducible repeat (first | apply Kd.V_alloc | apply Kd.V_drewN | apply Kd.V_drew)); exact HO_0.out) hg hat)
            have n1_ := Aside0.mk (Kd.V_afterv (ok := (fun k_ => (P0_ k_ ∨ w.heap.size ≤ k_))) (by (with_reducible repeat (first | apply Kd.V_alloc | apply Kd.V_drewN | apply Kd.V_drew)); exact HL125_0.out) hg hat)
            have n2_ := Aside0.mk (Kd.V_afterv (ok := (fun k_ => (P0_ k_ ∨ w.heap.size ≤ k_))) (by (with_reducible repeat (first | apply Kd.V_alloc | apply Kd.V_drewN | apply Kd.V_drew)); exact HL125_1.out) hg hat)
            have n3_ := Aside0.mk (Kd.V_afterv (ok := (fun k_ => (P0_ k_ ∨ w.heap.size ≤ k_))) (by (with_reducible repeat (first | apply Kd.V_alloc | apply Kd.V_drewN | apply Kd.V_drew)); exact HL126_0.out) hg hat)
            have n4_ := Aside0.mk (Kd.V_afterv (ok := (fun k_ => (P0_ k_ ∨ w.heap.size ≤ k_))) (by (with_reducible repeat (first | apply Kd.V_alloc | apply Kd.V_drewN | apply Kd.V_drew)); exact HL126_1.out) hg hat)
            have n5_ := Aside0.mk (hb)
            have n6_ := Aside0.mk (ho)
            clear HO_0
            clear HL125_0
            clear HL125_1
            clear HL126_0
            clear HL126_1
            clear HB
            clear HO_3
            have HO_0 := n0_
            have HL125_0 := n1_
            have HL125_1 := n2_
            have HL126_0 := n3_
            have HL126_1 := n4_
            have HB := n5_
            have HO129 := n6_
            clear n0_ n1_ n2_ n3_ n4_ n5_ n6_
            clear ho hb hg hat
            refine hK.out _ _ ?_
            clear hK K
            refine norm_ (a' := ?_) ?_ ?_
            rotate_left
            · show Act.put _ (some 24) _ = _
              simp only [Act.put, List.setIfInBounds_toArray, List.set_cons_zero, List.set_cons_succ, i64_w, i32_w]
              rfl
            refine pure_ (i := 14) (N := some 3) (v := ?_) (a' := ?_) #[true, true, true, true, true, true, true, true, true, true, true, true, true, true, true] rfl rfl (any_of HT_.out (by kernel_rfl)) (fun _ _ _ h => h) (Or.inl ⟨by rfl, ?_⟩) ?_ ?_
            rotate_left
            · intro w'
              go_simp
              with_reducible rfl
            rotate_left
            · simp only [Act.put, List.setIfInBounds_toArray, List.set_cons_zero, List.set_cons_succ, i64_w, i32_w]
              rfl
            refine done_ (done_of HT_.out (by kernel_rfl)) ?_
            try go_wp2
            go_roundg k1
            case measure => have := HK1.out; omega
            case rel => exact ⟨(y127), (wrap64 (x4_1 + 1)), (by first | rfl | (simp; done) | (simp [*]; done)), H', ⟨by have := HK1.out; omega⟩, ⟨by (with_reducible repeat (first | apply Kd.V_alloc | apply Kd.V_drewN | apply Kd.V_drew)); exact HO_0.out⟩, ⟨by (with_reducible repeat (first | apply Kd.N_alloc | apply Kd.N_drewN | apply Kd.N_drew)); exact HO129.out⟩, ⟨by repeat (first | (with_reducible first | exact HB.out | apply below_alloc | apply pw_below_drewN | apply below_drew1) | exact HB.out)⟩⟩
          · rw [if_neg c4] at H
            exact absurd H (by simp)
        · rw [if_neg c3] at H
          exact absurd H (by simp)
      · rw [if_neg c2] at H
        have c2b0 : decide (x4_1 < (l0.length : Int)) = false := decide_eq_false c2
        clear c2
        obtain rfl := Option.some.inj H
        go_wp2
        go_ret
        exact ⟨_, by first | rfl | (simp [errW_none, errW_some] <;> rfl) | (simp [*, errW_none, errW_some] <;> rfl), by (with_reducible repeat (first | apply Kd.N_alloc | apply Kd.N_drewN | apply Kd.N_drew)); exact HO_3.out, by repeat (first | (with_reducible first | exact HB.out | apply below_alloc | apply pw_below_drewN | apply below_drew1) | exact HB.out)⟩

/-! ### spec_CursorNew: function 63 -/
/-! ### spec_OrderCompare: function 30 -/
def spec_OrderCompare.j0 : Nat → Int → List Int → List Int → Bool → Option (Int)
  | 0, _, _, _, _ => none
  | k + 1, x0, x1, x2, x7 => if x7 = true then ((spec_BytesCompare.f k x2 x1).bind fun t131 => (some t131)) else (if x0 = 2 then (if (x1.length : Int) = (x2.length : Int) then ((spec_BytesCompare.f k x1 x2).bind fun t132 => (some t132)) else (some (wrap64 ((x1.length : Int) - (x2.length : Int))))) else ((spec_BytesCompare.f k x1 x2).bind fun t133 => (some t133)))
def spec_OrderCompare.f (k : Nat) (a0 : Int) (l1 : List Int) (l2 : List Int) : Option (Int) := if a0 = 1 then (if (l1.length : Int) > 0 then (spec_OrderCompare.j0 k a0 l1 l2 (decide ((l2.length : Int) > 0))) else (spec_OrderCompare.j0 k a0 l1 l2 false)) else (spec_OrderCompare.j0 k a0 l1 l2 false)
set_option maxHeartbeats 8000000 in
set_option maxRecDepth 100000 in
theorem spec_OrderCompare.calls (k : Nat) (a0 : Int) (A1 : Option Addr) (c1 : Nat) (l1 : List Int) (A2 : Option Addr) (c2 : Nat) (l2 : List Int) (r : Int) (w : World) (hr1 : Kd.C (Kd.int .u8) w A1 l1.length l1) (hc1 : l1.length ≤ c1) (hr2 : Kd.C (Kd.int .u8) w A2 l2.length l2) (hc2 : l2.length ≤ c2) (h : spec_OrderCompare.f k a0 l1 l2 = some r) :
    Calls Tryz.prog 30 #[.int .i64 a0, .slice A1 l1.length c1, .slice A2 l2.length c2] w fun e w' => e = .returned (.int .i64 r) ∧ Drawn0 w w' := by
  have HR1 := Aside0.mk hr1
  have HC1 := Aside0.mk hc1
  clear hr1 hc1
  have HR2 := Aside0.mk hr2
  have HC2 := Aside0.mk hc2
  clear hr2 hc2
  have H : (if a0 = 1 then (if (l1.length : Int) > 0 then (spec_OrderCompare.j0 k a0 l1 l2 (decide ((l2.length : Int) > 0))) else (spec_OrderCompare.j0 k a0 l1 l2 false)) else (spec_OrderCompare.j0 k a0 l1 l2 false)) = some r := h
  clear h
  have HC4 := Aside0.mk H
  clear H
  go_enter Tryz.func30, Tryz.ntmps30
  go_upto_region 1 with (fail)
  go_cut [7] (fun v7 wc => ∃ (kq : Nat) (x7_3 : Bool), v7 = .bool x7_3 ∧ Aside0 (spec_OrderCompare.j0 kq a0 l1 l2 x7_3 = some r) ∧ Aside0 (kq ≤ k) ∧ Drawn0 w wc)
  case first =>
    have H := HC4.out
    clear HC4
    by_cases c5 : a0 = 1
    · rw [if_pos c5] at H
      have c5b0 : (a0 == 1) = true := beq_iff_eq.mpr c5
      have c5b1 : (a0 != 1) = false := bne_eq_false_iff_eq.mpr c5
      clear c5
      (first | rw [c5b0] | (simp only [i64_w, i32_w]; rw [c5b0]) | skip)
      by_cases c6 : (l1.length : Int) > 0
      · rw [if_pos c6] at H
        have c6b0 : decide (0 < (l1.length : Int)) = true := decide_eq_true c6
        have c6b1 : decide (0 < l1.length) = true := decide_eq_true (by omega)
        clear c6
        have H' := Aside0.mk H
        clear H
        go_wp2
        go_meet
        case rel => exact ⟨_, (decide ((l2.length : Int) > 0)), (by first | rfl | (simp; done) | (simp [*]; done)), H', ⟨by first | omega | exact Nat.le_refl _⟩, by repeat (first | exact Drawn0.refl _ | apply Drawn0.step)⟩
      · rw [if_neg c6] at H
        have c6b0 : decide (0 < (l1.length : Int)) = false := decide_eq_false c6
        have c6b1 : decide (0 < l1.length) = false := decide_eq_false (by omega)
        clear c6
        have H' := Aside0.mk H
        clear H
        go_wp2
        go_meet
        case rel => exact ⟨_, (false), (by first | rfl | (simp; done) | (simp [*]; done)), H', ⟨by first | omega | exact Nat.le_refl _⟩, by repeat (first | exact Drawn0.refl _ | apply Drawn0.step)⟩
    · rw [if_neg c5] at H
      have c5b0 : (a0 == 1) = false := beq_eq_false_iff_ne.mpr c5
      have c5b1 : (a0 != 1) = true := bne_iff_ne.mpr c5
      (first | rw [c5b0] | (simp only [i64_w, i32_w]; rw [c5b0]) | skip)
      have H' := Aside0.mk H
      clear H
      go_wp2
      go_meet
      case rel => exact ⟨_, (false), (by first | rfl | (simp; done) | (simp [*]; done)), H', ⟨by first | omega | exact Nat.le_refl _⟩, by repeat (first | exact Drawn0.refl _ | apply Drawn0.step)⟩
  case rest =>
    clear HC4
    try clear c1
    try clear c2
    try clear p2
    try clear c3
    try clear c5
    try clear c5b0
    try clear c5b1
    try clear c6
    try clear c6b0
    try clear c6b1
    obtain ⟨kq, x7_3, rfl, HA, HJ3, ⟨mc3, rfl⟩⟩ := hcut
    cases kq with
    | zero => exact absurd HA.out (by simp [spec_OrderCompare.j0])
    | succ kj3 =>
      have H := HA.out
      clear HA
      simp only [spec_OrderCompare.j0] at H
      by_cases c7 : x7_3 = true
      · subst c7
        have H1 : ((spec_BytesCompare.f kj3 l2 l1).bind fun t131 => (some t131)) = some r := by rw [if_pos rfl] at H; exact H
        clear H
        have H := H1
        clear H1
        replace H := Option.bind_eq_some_iff.mp H
        obtain ⟨t131, A80, H⟩ := H
        replace H : (some t131) = some r := H
        have A8 := Aside0.mk A80
        clear A80
        obtain rfl := Option.some.inj H
        go_wp2_with (first | ((with_reducible refine gate_callee (f := 48) rfl ?_); refine goesL_ (some 22) rfl rfl Tryz.func48 (by kernel_rfl) rfl #[.slice A2 l2.length c2, .slice A1 l1.length c1] rfl (by (try simp only [List.map_toArray, List.map_cons, List.map_nil]); first | done | rfl | (simp only [List.length_drop, List.length_take]; rfl)) ?_; (with_reducible refine (spec_BytesCompare.calls kj3 _ _ l2 _ _ l1 t131 _ ?side1 ?side2 ?side3 ?side4 A8.out).mono ?_); (case side1 => repeat (first | exact HR2.out | (with_reducible refine Kd.C_alloc ?_ _) | (with_reducible refine Kd.C_drewN ?_ _) | (with_reducible refine Kd.C_drew ?_))); (case side2 => exact HC2.out); (case side3 => repeat (first | exact HR1.out | (with_reducible refine Kd.C_alloc ?_ _) | (with_reducible refine Kd.C_drewN ?_ _) | (with_reducible refine Kd.C_drew ?_))); (case side4 => exact HC1.out); rintro e w' ⟨rfl, ⟨nd, rfl⟩⟩; refine ⟨_, rfl, ?_⟩))
        go_ret
        exact ⟨by first | rfl | (simp; done) | (simp [*]; done), by repeat (first | exact Drawn0.refl _ | apply Drawn0.step)⟩
      · replace c7 := Bool.eq_false_iff.mpr c7
        subst c7
        have H1 : (if a0 = 2 then (if (l1.length : Int) = (l2.length : Int) then ((spec_BytesCompare.f kj3 l1 l2).bind fun t132 => (some t132)) else (some (wrap64 ((l1.length : Int) - (l2.length : Int))))) else ((spec_BytesCompare.f kj3 l1 l2).bind fun t133 => (some t133))) = some r := by rw [if_neg (show ¬ (false = true) by decide)] at H; exact H
        clear H
        have H := H1
        clear H1
        by_cases c9 : a0 = 2
        · rw [if_pos c9] at H
          have c9b0 : (a0 == 2) = true := beq_iff_eq.mpr c9
          have c9b1 : (a0 != 2) = false := bne_eq_false_iff_eq.mpr c9
          clear c9
          by_cases c10 : (l1.length : Int) = (l2.length : Int)
          · rw [if_pos c10] at H
            have c10b0 : ((l1.length : Int) == (l2.length : Int)) = true := beq_iff_eq.mpr c10
            have c10b1 : ((l1.length : Int) != (l2.length : Int)) = false := bne_eq_false_iff_eq.mpr c10
            have c10b2 : (l1.length == l2.length) = true := by first | simpa using c10 | (simp at c10 ⊢; omega)
            clear c10
            replace H := Option.bind_eq_some_iff.mp H
            obtain ⟨t132, A110, H⟩ := H
            replace H : (some t132) = some r := H
            have A11 := Aside0.mk A110
            clear A110
            obtain rfl := Option.some.inj H
            go_wp2_with (first | ((with_reducible refine gate_callee (f := 48) rfl ?_); refine goesL_ (some 40) rfl rfl Tryz.func48 (by kernel_rfl) rfl #[.slice A1 l1.length c1, .slice A2 l2.length c2] rfl (by (try simp only [List.map_toArray, List.map_cons, List.map_nil]); first | done | rfl | (simp only [List.length_drop, List.length_take]; rfl)) ?_; (with_reducible refine (spec_BytesCompare.calls kj3 _ _ l1 _ _ l2 t132 _ ?side1 ?side2 ?side3 ?side4 A11.out).mono ?_); (case side1 => repeat (first | exact HR1.out | (with_reducible refine Kd.C_alloc ?_ _) | (with_reducible refine Kd.C_drewN ?_ _) | (with_reducible refine Kd.C_drew ?_))); (case side2 => exact HC1.out); (case side3 => repeat (first | exact HR2.out | (with_reducible refine Kd.C_alloc ?_ _) | (with_reducible refine Kd.C_drewN ?_ _) | (with_reducible refine Kd.C_drew ?_))); (case side4 => exact HC2.out); rintro e w' ⟨rfl, ⟨nd, rfl⟩⟩; refine ⟨_, rfl, ?_⟩))
            go_ret
            exact ⟨by first | rfl | (simp; done) | (simp [*]; done), by repeat (first | exact Drawn0.refl _ | apply Drawn0.step)⟩
          · rw [if_neg c10] at H
            have c10b0 : ((l1.length : Int) == (l2.length : Int)) = false := beq_eq_false_iff_ne.mpr c10
            have c10b1 : ((l1.length : Int) != (l2.length : Int)) = true := bne_iff_ne.mpr c10
            have c10b2 : (l1.length == l2.length) = false := by first | simpa using c10 | (simp at c10 ⊢; omega)
            obtain rfl := Option.some.inj H
            go_wp2
            go_ret
            exact ⟨by first | rfl | (simp; done) | (simp [*]; done), by repeat (first | exact Drawn0.refl _ | apply Drawn0.step)⟩
        · rw [if_neg c9] at H
          have c9b0 : (a0 == 2) = false := beq_eq_false_iff_ne.mpr c9
          have c9b1 : (a0 != 2) = true := bne_iff_ne.mpr c9
          replace H := Option.bind_eq_some_iff.mp H
          obtain ⟨t133, A120, H⟩ := H
          replace H : (some t133) = some r := H
          have A12 := Aside0.mk A120
          clear A120
          obtain rfl := Option.some.inj H
          go_wp2_with (first | ((with_reducible refine gate_callee (f := 48) rfl ?_); refine goesL_ (some 40) rfl rfl Tryz.func48 (by kernel_rfl) rfl #[.slice A1 l1.length c1, .slice A2 l2.length c2] rfl (by (try simp only [List.map_toArray, List.map_cons, List.map_nil]); first | done | rfl | (simp only [List.length_drop, List.length_take]; rfl)) ?_; (with_reducible refine (spec_BytesCompare.calls kj3 _ _ l1 _ _ l2 t133 _ ?side1 ?side2 ?side3 ?side4 A12.out).mono ?_); (case side1 => repeat (first | exact HR1.out | (with_reducible refine Kd.C_alloc ?_ _) | (with_reducible refine Kd.C_drewN ?_ _) | (with_reducible refine Kd.C_drew ?_))); (case side2 => exact HC1.out); (case side3 => repeat (first | exact HR2.out | (with_reducible refine Kd.C_alloc ?_ _) | (with_reducible refine Kd.C_drewN ?_ _) | (with_reducible refine Kd.C_drew ?_))); (case side4 => exact HC2.out); rintro e w' ⟨rfl, ⟨nd, rfl⟩⟩; refine ⟨_, rfl, ?_⟩))
          go_ret
          exact ⟨by first | rfl | (simp; done) | (simp [*]; done), by repeat (first | exact Drawn0.refl _ | apply Drawn0.step)⟩

/-! ### spec_CursorFind: function 35 -/
def spec_CursorFind.l0 : Nat → Int → List (S36) → List Int → Int → Option (Int)
  | 0, _, _, _, _ => none
  | k + 1, x0, x1, x2, x7 => if x7 < (x1.length : Int) then (if 0 ≤ x7 then ((spec_OrderCompare.f k x0 ((rd_T36 x1 x7).f0) x2).bind fun t135 => (if t135 < 0 then (spec_CursorFind.l0 k x0 x1 x2 (wrap64 (x7 + 1))) else (some x7))) else (none)) else (some x7)
def spec_CursorFind.f (k : Nat) (a0 : Int) (l1 : List (S36)) (l2 : List Int) : Option (Int) := spec_CursorFind.l0 k a0 l1 l2 0
set_option maxHeartbeats 8000000 in
set_option maxRecDepth 100000 in
theorem spec_CursorFind.calls (k : Nat) (a0 : Int) (A1 : Option Addr) (c1 : Nat) (l1 : List (S36)) (A2 : Option Addr) (c2 : Nat) (l2 : List Int) (r : Int) (w : World) (hr1 : Kd.C k36 w A1 l1.length l1) (hc1 : l1.length ≤ c1) (hr2 : Kd.C (Kd.int .u8) w A2 l2.length l2) (hc2 : l2.length ≤ c2) (h : spec_CursorFind.f k a0 l1 l2 = some r) :
    Calls Tryz.prog 35 #[.int .i64 a0, .slice A1 l1.length c1, .slice A2 l2.length c2] w fun e w' => e = .returned (.int .i64 r) ∧ Drawn0 w w' := by
  have HR1 := Aside0.mk hr1
  have HC1 := Aside0.mk hc1
  clear hr1 hc1
  have HR2 := Aside0.mk hr2
  have HC2 := Aside0.mk hc2
  clear hr2 hc2
  have H : (spec_CursorFind.l0 k a0 l1 l2 0) = some r := h
  clear h
  have H' := Aside0.mk H
  clear H
  go_enter Tryz.func35, Tryz.ntmps35
  go_wp2
  go_loopg [7] k (fun kq v7 w' => ∃ (x7_1 : Int), v7 = .int .i64 x7_1 ∧ Aside0 (spec_CursorFind.l0 kq a0 l1 l2 x7_1 = some r) ∧ Aside0 (kq ≤ k) ∧ Drawn0 w w')
  case atStart => exact ⟨(0), (by first | rfl | (simp; done) | (simp [*]; done)), H', ⟨Nat.le_refl _⟩, by repeat (first | exact Drawn0.refl _ | apply Drawn0.step)⟩
  case round =>
    clear H'
    try clear c1
    try clear c2
    try clear p2
    try clear c3
    obtain ⟨x7_1, rfl, HA, HK1, ⟨m1, rfl⟩⟩ := hrel
    cases gk with
    | zero => exact absurd HA.out (by simp [spec_CursorFind.l0])
    | succ k1 =>
      have H := HA.out
      clear HA
      simp only [spec_CursorFind.l0] at H
      by_cases c4 : x7_1 < (l1.length : Int)
      · rw [if_pos c4] at H
        have c4b0 : decide (x7_1 < (l1.length : Int)) = true := decide_eq_true c4
        clear c4
        by_cases c5 : 0 ≤ x7_1
        · rw [if_pos c5] at H
          have c5b0 : decide (0 ≤ x7_1) = true := decide_eq_true c5
          clear c5
          replace H := Option.bind_eq_some_iff.mp H
          obtain ⟨t135, A60, H⟩ := H
          replace H : (if t135 < 0 then (spec_CursorFind.l0 k1 a0 l1 l2 (wrap64 (x7_1 + 1))) else (some x7_1)) = some r := H
          have A6 := Aside0.mk A60
          clear A60
          by_cases c7 : t135 < 0
          · rw [if_pos c7] at H
            have c7b0 : decide (t135 < 0) = true := decide_eq_true c7
            clear c7
            have H' := Aside0.mk H
            clear H
            have p134 : 0 ≤ (x7_1 : Int) := of_decide_eq_true (by first | (with_reducible assumption) | assumption)
            have q134 : x7_1 < (l1.length : Int) := of_decide_eq_true (by first | (with_reducible assumption) | assumption)
            obtain ⟨ad134, A134_0, c134_0, A134_1, c134_1, e134, hx134_0, hx134_1, hl134_0, hi134_0, hl134_1, hi134_1⟩ := at_T36 HR1.out x7_1 p134 q134
            cases e134
            have HR134_0 := Aside0.mk hi134_0
            have HC134_0 := Aside0.mk hl134_0
            clear hi134_0 hl134_0
            have HR134_1 := Aside0.mk hi134_1
            have HC134_1 := Aside0.mk hl134_1
            clear hi134_1 hl134_1
            replace p134 := eq_true p134
            replace q134 := eq_true q134
            go_wp2_with (first | (go_at_call 30; (with_reducible refine (spec_OrderCompare.calls k1 a0 _ _ ((rd_T36 l1 x7_1).f0) _ _ l2 t135 _ ?side1 ?side2 ?side3 ?side4 A6.out).mono ?_); (case side1 => repeat (first | exact HR134_0.out | (with_reducible refine Kd.C_alloc ?_ _) | (with_reducible refine Kd.C_drewN ?_ _) | (with_reducible refine Kd.C_drew ?_))); (case side2 => exact HC134_0.out); (case side3 => repeat (first | exact HR2.out | (with_reducible refine Kd.C_alloc ?_ _) | (with_reducible refine Kd.C_drewN ?_ _) | (with_reducible refine Kd.C_drew ?_))); (case side4 => exact HC2.out); rintro e w' ⟨rfl, ⟨nd, rfl⟩⟩))
            go_roundg k1
            case measure => have := HK1.out; omega
            case rel => exact ⟨(wrap64 (x7_1 + 1)), (by first | rfl | (simp; done) | (simp [*]; done)), H', ⟨by have := HK1.out; omega⟩, by repeat (first | exact Drawn0.refl _ | apply Drawn0.step)⟩
          · rw [if_neg c7] at H
            have c7b0 : decide (t135 < 0) = false := decide_eq_false c7
            clear c7
            obtain rfl := Option.some.inj H
            have p134 : 0 ≤ (x7_1 : Int) := of_decide_eq_true (by first | (with_reducible assumption) | assumption)
            have q134 : x7_1 < (l1.length : Int) := of_decide_eq_true (by first | (with_reducible assumption) | assumption)
            obtain ⟨ad134, A134_0, c134_0, A134_1, c134_1, e134, hx134_0, hx134_1, hl134_0, hi134_0, hl134_1, hi134_1⟩ := at_T36 HR1.out x7_1 p134 q134
            cases e134
            have HR134_0 := Aside0.mk hi134_0
            have HC134_0 := Aside0.mk hl134_0
            clear hi134_0 hl134_0
            have HR134_1 := Aside0.mk hi134_1
            have HC134_1 := Aside0.mk hl134_1
            clear hi134_1 hl134_1
            replace p134 := eq_true p134
            replace q134 := eq_true q134
            go_wp2_with (first | (go_at_call 30; (with_reducible refine (spec_OrderCompare.calls k1 a0 _ _ ((rd_T36 l1 x7_1).f0) _ _ l2 t135 _ ?side1 ?side2 ?side3 ?side4 A6.out).mono ?_); (case side1 => repeat (first | exact HR134_0.out | (with_reducible refine Kd.C_alloc ?_ _) | (with_reducible refine Kd.C_drewN ?_ _) | (with_reducible refine Kd.C_drew ?_))); (case side2 => exact HC134_0.out); (case side3 => repeat (first | exact HR2.out | (with_reducible refine Kd.C_alloc ?_ _) | (with_reducible refine Kd.C_drewN ?_ _) | (with_reducible refine Kd.C_drew ?_))); (case side4 => exact HC2.out); rintro e w' ⟨rfl, ⟨nd, rfl⟩⟩))
            go_ret
            exact ⟨by first | rfl | (simp; done) | (simp [*]; done), by repeat (first | exact Drawn0.refl _ | apply Drawn0.step)⟩
        · rw [if_neg c5] at H
          exact absurd H (by simp)
      · rw [if_neg c4] at H
        have c4b0 : decide (x7_1 < (l1.length : Int)) = false := decide_eq_false c4
        clear c4
        obtain rfl := Option.some.inj H
        go_wp2
        go_ret
        exact ⟨by first | rfl | (simp; done) | (simp [*]; done), by repeat (first | exact Drawn0.refl _ | apply Drawn0.step)⟩

end Go.Proofs.YtdkkkikcigjlhaaGreatDoor.PFnMemMap
