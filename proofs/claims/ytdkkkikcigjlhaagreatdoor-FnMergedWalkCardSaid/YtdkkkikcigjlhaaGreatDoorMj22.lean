/- The memory table's iterator: Next and Prev. -/
import Derived.Test.YtdkkkikcigjlhaaGreatDoorMj21
set_option linter.unusedVariables false
set_option linter.unusedSimpArgs false
namespace Go.Proofs.YtdkkkikcigjlhaaGreatDoor.Md
open Go.RowKit Go.Proofs.YtdkkkikcigjlhaaGreatDoor.Con Go.Proofs.YtdkkkikcigjlhaaGreatDoor.Run Go.Proofs.YtdkkkikcigjlhaaGreatDoorW.PrintWords Go.Proofs.YtdkkkikcigjlhaaGreatDoorW.PrintMore Go.Proofs.YtdkkkikcigjlhaaGreatDoor.Cmp Go.Sort Go.RwLone

theorem next_link {nd kv : List Int} {mh : Nat} {ns A B : List Node} {x : Node} (h : Skip nd kv mh ns) (e : ns = A ++ x :: B) : G nd (x.a + 4) = ((addr B.head? : Nat) : Int) := by
  have h1 := h.links (A ++ [x]) B (by rw [e]; simp) 0 (by omega)
  have hx := (h.ok x (by rw [e]; simp)).h1
  rw [prv_hit 0 A [] x (by simp) (by omega), nxt_head (fun y hy => (h.ok y (by rw [e]; simp [hy])).h1)] at h1
  exact h1

theorem four_sums {a h n : Nat} (h1 : a + 4 + h ≤ n) (h2 : 1 ≤ h) (hn : n ≤ 1099511627776) :
    (a : Int) + 4 < (n : Int) ∧ (0 : Int) ≤ (a : Int) + 4 ∧ ((a : Int) + 4).toNat = a + 4 ∧ IntKind.i64.wrap ((a : Int) + 4) = (a : Int) + 4 :=
  ⟨by omega, by omega, by omega, iz (by omega) (by omega)⟩

theorem ez {a : Nat} (h : 16 ≤ a) : ((a : Int) == 0) = false := by rw [beq_eq_false_iff_ne]; omega

theorem split_at {f : List Int → List Int → Int} (ho : Ord f) {ns A B : List Node} {x : Node} (e : ns = A ++ x :: B) (h : Sorted f ns) : (∀ y ∈ A, f y.key x.key < 0) ∧ (∀ y ∈ x :: B, 0 ≤ f y.key x.key) := by
  rw [e] at h
  obtain ⟨_, h2, h3⟩ := List.pairwise_append.1 h
  refine ⟨fun y hy => h3 y hy x List.mem_cons_self, fun y hy => ?_⟩
  rcases List.mem_cons.1 hy with rfl | hy
  · rw [ho.refl]
    exact Int.le_refl 0
  · have := (List.pairwise_cons.1 h2).1 y hy
    rw [ho.swap]
    omega

set_option maxHeartbeats 3200000 in
set_option maxRecDepth 100000 in
theorem Next_on {w : World} {D : MemD} {base p kb nb it : Nat} {V sv : Value} {f : List Int → List Int → Int} {ns A B : List Node} {st lim : Option (List Int)} {fw : Bool} {x : Node} (h : MIt w D base p V f ns kb nb it sv st lim fw (some x)) (hkb : kb ≤ 1099511627776) (hnb : nb ≤ 1099511627776) (hns : ns = A ++ x :: B) :
    Calls Tryz.prog 167 #[.pointer (some ⟨it, 0, none⟩)] w fun e w' => Moved w D base p V f ns kb nb it sv st lim true (B.head?.filter fun x => under f lim x.key) e w' := by
  obtain ⟨ics, hb, hia⟩ := h.blk
  obtain ⟨A1, n1, c1, B1, m1, d1, hi⟩ := hia.is
  have HK := Lib.hid (And.intro hkb hnb)
  have hL := Lk.of h hb
  have e1 := hb.cell hi.c1
  have e5 := hb.cell hi.c5
  have f5 := hb.froz 5
  have e2 := hb.cell hi.c2
  have HL1 := Lib.hid (hL.setIt 5 (.bool true))
  have HI1 := Lib.hid (hi.s5 true)
  have hxo := h.M.S.ok x (h.on x rfl)
  have e4 : w.cell? ⟨it, 4, none⟩ = some (.int .i64 (x.a : Int)) := hb.cell hi.c4
  have z0 := ez hxo.a
  have HX := Lib.hid (And.intro hns hxo)
  have HREL := Lib.hid (Released_calls e1)
  clear h hb hia hi hL hkb hnb hns hxo
  go_enter_defers Tryz.func167, Tryz.ntmps167
  go_upto_region 9 with (go_at_call 174; (with_reducible refine HREL.out.mono ?_); rintro e w' ⟨rfl, rfl⟩)
  generalize w.setCell ⟨it, 5, none⟩ (.bool true) = w1 at *
  have e2 := HL1.out.B.cell HI1.out.c2
  have q6 := HL1.out.cellP HL1.out.C.c6
  have g6 := HL1.out.fP 6
  go_wp2_with (fail)
  refine (rlock_open rwRLib p 2 0 _ _ _ (HL1.out.cellP HL1.out.C.c2) (HL1.out.cellP HL1.out.C.c5) q6 g6 (by rw [up1]; decide)).mono ?_
  rintro e w' ⟨rfl, rfl⟩
  simp only [up1, show 2 + 4 = 6 from rfl]
  have HL2 := Lib.hid (HL1.out.lock 1)
  clear q6 g6 HL1 e1 e5 f5
  generalize w1.setCell ⟨p, 6, none⟩ (.int .i32 1) = w2 at *
  have e2 := HL2.out.B.cell HI1.out.c2
  have e3 := HL2.out.B.cell HI1.out.c3
  have e4 : w2.cell? ⟨it, 4, none⟩ = some (.int .i64 (x.a : Int)) := HL2.out.B.cell HI1.out.c4
  clear z0
  go_upto_region 11 with (fail)
  obtain ⟨ad, hN, hx4⟩ := HL2.out.T.at' (i := x.a + 4) (by have := HX.out.2.end_; have := HX.out.2.h1; omega)
  rw [next_link HL2.out.M.S HX.out.1] at hx4
  have d9 : w2.cell? ⟨p, 9, none⟩ = some (.slice (some ad) D.nd.length D.c) := by
    have h9 := HL2.out.cellP HL2.out.C.c9
    rw [MemD.vn, hN] at h9
    exact h9
  obtain ⟨s1, s2, s3, s4⟩ := four_sums HX.out.2.end_ HX.out.2.h1 (Nat.le_trans HL2.out.M.ndb HK.out.2)
  refine still_tail 17 (by kernel_rfl) (by kernel_rfl) ?_
  intro W3 hW3
  have HD := Lib.hid (HL2.out.below (drew_below hW3))
  have e2 := drew_cell hW3 e2
  have e4 := drew_cell hW3 e4
  have d9 := drew_cell hW3 d9
  have hx4 := drew_cell hW3 hx4
  have g4 := HD.out.B.froz 4
  clear hW3 HL2
  generalize x.a = xa at *
  simp only [List.take_succ_cons, List.take_zero, List.drop_succ_cons, List.drop_zero]
  repeat still_step
  refine wpStill_nil ?_
  have HL3 := Lib.hid (HD.out.setIt 4 (.int .i64 ((addr B.head? : Nat) : Int)))
  have HI3 := Lib.hid (HI1.out.s4 ((addr B.head? : Nat) : Int))
  have HFILL := Lib.hid (HL3.out.fillU (o := B.head?) HK.out.1 HK.out.2 HI3.out (fun y hy => by rw [HX.out.1]; exact List.mem_append_right _ (List.mem_cons_of_mem _ (List.mem_of_mem_head? hy))))
  clear s1 s2 s3 s4 d9 hx4 HD HI1
  go_wp2_with (go_at_call 175; (with_reducible refine HFILL.out.mono ?_); rintro e w4 ⟨bb, rfl, hbb, ics4, hia4, hL4⟩)
  refine leaves_cons (f := 92) (args := #[.pointer (some ⟨p, 2, none⟩)]) (by simp) (by simp [go_sem]) ?_
  refine (runlock_deferred rwRLib p 2 1 (.int .i32 0) (.int .u32 0) .returning _ (hL4.cellP hL4.C.c2) (hL4.cellP hL4.C.c4) (hL4.cellP hL4.C.c6) (hL4.fP 6) (by rw [down1]; decide)).mono ?_
  rintro e u' w'' ⟨rfl, rfl, rfl⟩
  rw [down1]
  have hL5 := hL4.lock 0
  exact ⟨_, results_tmp rfl _ _ _, by rw [← hbb.out]; rfl, _, hL5.rest hia4 (fun x hx => by rw [HX.out.1]; exact List.mem_append_right _ (List.mem_cons_of_mem _ (List.mem_of_mem_head? (Option.mem_of_mem_filter hx)))), hL5.F⟩

set_option maxHeartbeats 3200000 in
set_option maxRecDepth 100000 in
theorem Prev_on {w : World} {D : MemD} {base p kb nb it : Nat} {V sv : Value} {f : List Int → List Int → Int} {ns A B : List Node} {st lim : Option (List Int)} {fw : Bool} {x : Node} (h : MIt w D base p V f ns kb nb it sv st lim fw (some x)) (hkb : kb ≤ 1099511627776) (hnb : nb ≤ 1099511627776) (hns : ns = A ++ x :: B) :
    Calls Tryz.prog 168 #[.pointer (some ⟨it, 0, none⟩)] w fun e w' => Moved w D base p V f ns kb nb it sv st lim false (A.getLast?.filter fun x => over f st x.key) e w' := by
  obtain ⟨ics, hb, hia⟩ := h.blk
  obtain ⟨A1, c1, B1, d1, hi, hkc, _, hcut, _⟩ := hia
  have HK := Lib.hid (And.intro hkb hnb)
  have hL := Lk.of h hb
  have e1 := hb.cell hi.c1
  have e5 := hb.cell hi.c5
  have f5 := hb.froz 5
  have e2 := hb.cell hi.c2
  have HL1 := Lib.hid (hL.setIt 5 (.bool false))
  have HI1 := Lib.hid (hi.s5 false)
  have hxo := h.M.S.ok x (h.on x rfl)
  have e4 : w.cell? ⟨it, 4, none⟩ = some (.int .i64 (x.a : Int)) := hb.cell hi.c4
  have z0 := ez hxo.a
  have HX := Lib.hid (And.intro hns (And.intro hxo hcut))
  have HREL := Lib.hid (Released_calls e1)
  clear h hb hi hL hkb hnb hns hxo hcut hkc
  go_enter_defers Tryz.func168, Tryz.ntmps168
  go_upto_region 9 with (go_at_call 174; (with_reducible refine HREL.out.mono ?_); rintro e w' ⟨rfl, rfl⟩)
  generalize w.setCell ⟨it, 5, none⟩ (.bool false) = w1 at *
  have e2 := HL1.out.B.cell HI1.out.c2
  have q6 := HL1.out.cellP HL1.out.C.c6
  have g6 := HL1.out.fP 6
  go_wp2_with (fail)
  refine (rlock_open rwRLib p 2 0 _ _ _ (HL1.out.cellP HL1.out.C.c2) (HL1.out.cellP HL1.out.C.c5) q6 g6 (by rw [up1]; decide)).mono ?_
  rintro e w' ⟨rfl, rfl⟩
  simp only [up1, show 2 + 4 = 6 from rfl]
  have HL2 := Lib.hid (HL1.out.lock 1)
  clear q6 g6 HL1 e1 e5 f5
  generalize w1.setCell ⟨p, 6, none⟩ (.int .i32 1) = w2 at *
  have e2 := HL2.out.B.cell HI1.out.c2
  have e3 := HL2.out.B.cell HI1.out.c3
  have e6 : w2.cell? ⟨it, 6, none⟩ = some (.slice A1 x.key.length c1) := HL2.out.B.cell HI1.out.c6
  clear z0
  have HBX := Lib.hid (HL2.out.M.byt x (by rw [HX.out.1]; simp)).1
  have HSP := Lib.hid (split_at HL2.out.M.cm.ord HX.out.1 HL2.out.M.sorted)
  go_upto_region 11 with (fail)
  have HD := Lib.hid (HL2.out.below (below_drew (Below.refl _ _)))
  have HGF := Lib.hid (LT_calls (N := D.N) (c := D.c) (Kx := D.Kx) (ck := D.ck) (nd := D.nd) (kv := D.kv) (ca := c1) HD.out.T HD.out.C HD.out.M.S (Nat.le_trans HD.out.M.ndb HK.out.2) (Nat.le_trans HD.out.M.kvb HK.out.1) HD.out.M.cap HD.out.M.cm HX.out.1 HSP.out.1 HSP.out.2 (sorted_right HX.out.1 HD.out.M.sorted) HBX.out (fun x hx => (HD.out.M.byt x hx).1) (HX.out.2.2 _ (ints_C (own_reads' HD.out.T.kv))))
  refine wp_region_noPanic ?_
  go_region_law
    (go_simp; go_at_call 176; (with_reducible refine HGF.out.mono ?_); rintro e w3 ⟨rfl, hb3⟩; have h4 := (HD.out.below hb3).B.cell HI1.out.c4; have g4 := (HD.out.below hb3).B.froz 4)
  all_goals refine NoPanic.normal ?_
  all_goals
    have HL3 := Lib.hid ((HD.out.below hb3).setIt 4 (.int .i64 ((addr A.getLast? : Nat) : Int)))
    have HI3 := Lib.hid (HI1.out.s4 ((addr A.getLast? : Nat) : Int))
    have HFILL := Lib.hid (HL3.out.fillO (o := A.getLast?) HK.out.1 HK.out.2 HI3.out (fun y hy => by rw [HX.out.1]; exact List.mem_append_left _ (List.mem_of_getLast? hy)))
    rw [prv_last (fun y hy => (HL2.out.M.S.ok y (by rw [HX.out.1]; exact List.mem_append_left _ hy)).h1)]
    clear h4 g4 hb3 HGF HD
    go_wp2_with (go_at_call 175; (with_reducible refine HFILL.out.mono ?_); rintro e w4 ⟨bb, rfl, hbb, ics4, hia4, hL4⟩)
    refine leaves_cons (f := 92) (args := #[.pointer (some ⟨p, 2, none⟩)]) (by simp) (by simp [go_sem]) ?_
    refine (runlock_deferred rwRLib p 2 1 (.int .i32 0) (.int .u32 0) .returning _ (hL4.cellP hL4.C.c2) (hL4.cellP hL4.C.c4) (hL4.cellP hL4.C.c6) (hL4.fP 6) (by rw [down1]; decide)).mono ?_
    rintro e u' w'' ⟨rfl, rfl, rfl⟩
    rw [down1]
    have hL5 := hL4.lock 0
    exact ⟨_, results_tmp rfl _ _ _, by rw [← hbb.out]; rfl, _, hL5.rest hia4 (fun x hx => by rw [HX.out.1]; exact List.mem_append_left _ (List.mem_of_getLast? (Option.mem_of_mem_filter hx))), hL5.F⟩

set_option maxHeartbeats 3200000 in
set_option maxRecDepth 100000 in
theorem Next_end {w : World} {D : MemD} {base p kb nb it : Nat} {V sv : Value} {f : List Int → List Int → Int} {ns : List Node} {st lim : Option (List Int)}  (h : MIt w D base p V f ns kb nb it sv st lim true none) :
    Calls Tryz.prog 167 #[.pointer (some ⟨it, 0, none⟩)] w fun e w' => Moved w D base p V f ns kb nb it sv st lim true none e w' := by
  obtain ⟨ics, hb, hi⟩ := h.blk
  have hi : Is ics p sv 0 true nilS nilS := hi
  have e1 := hb.cell hi.c1
  have e4 := hb.cell hi.c4
  have e5 := hb.cell hi.c5
  have HREL := Lib.hid (Released_calls e1)
  have HM := Lib.hid h
  clear h hb hi
  go_enter_defers Tryz.func167, Tryz.ntmps167
  go_wp2_with (go_at_call 174; (with_reducible refine HREL.out.mono ?_); rintro e w' ⟨rfl, rfl⟩)
  exact ⟨_, results_tmp rfl _ _ _, rfl, D.cs, HM.out, Fr.refl _ _⟩

set_option maxHeartbeats 3200000 in
set_option maxRecDepth 100000 in
theorem Next_begin {w : World} {D : MemD} {base p kb nb it : Nat} {V sv : Value} {f : List Int → List Int → Int} {ns : List Node} {st lim : Option (List Int)} {fw2 : Bool} {o2 : Option Node} (h : MIt w D base p V f ns kb nb it sv st lim false none) (hcall : Calls Tryz.prog 164 #[.pointer (some ⟨it, 0, none⟩)] w fun e w' => Moved w D base p V f ns kb nb it sv st lim fw2 o2 e w') :
    Calls Tryz.prog 167 #[.pointer (some ⟨it, 0, none⟩)] w fun e w' => Moved w D base p V f ns kb nb it sv st lim fw2 o2 e w' := by
  obtain ⟨ics, hb, hi⟩ := h.blk
  have hi : Is ics p sv 0 false nilS nilS := hi
  have e1 := hb.cell hi.c1
  have e4 := hb.cell hi.c4
  have e5 := hb.cell hi.c5
  have HREL := Lib.hid (Released_calls e1)
  have hc : Calls Tryz.prog 164 #[.pointer (some ⟨it, 0, none⟩)] w fun e w' => ∃ b : Bool, e = .returned (.bool b) ∧ Hid (b = o2.isSome) ∧ ∃ cs, MIt w' { D with cs := cs } base p V f ns kb nb it sv st lim fw2 o2 ∧ Fr w w' (fun k => k = it ∨ k = p) :=
    hcall.mono (by rintro e w' ⟨rfl, cs, h1, h2⟩; exact ⟨_, rfl, Lib.hid rfl, cs, h1, h2⟩)
  have HC := Lib.hid hc
  clear h hb hi hcall hc
  go_enter_defers Tryz.func167, Tryz.ntmps167
  go_wp2_with (first | (go_at_call 174; (with_reducible refine HREL.out.mono ?_); rintro e w' ⟨rfl, rfl⟩) | (go_at_call 164; (with_reducible refine HC.out.mono ?_); rintro e w4 ⟨bb, rfl, hbb, cs, hm, hf⟩))
  exact ⟨_, results_tmp rfl _ _ _, by rw [← hbb.out]; rfl, cs, hm, hf⟩

set_option maxHeartbeats 3200000 in
set_option maxRecDepth 100000 in
theorem Prev_begin {w : World} {D : MemD} {base p kb nb it : Nat} {V sv : Value} {f : List Int → List Int → Int} {ns : List Node} {st lim : Option (List Int)}  (h : MIt w D base p V f ns kb nb it sv st lim false none) :
    Calls Tryz.prog 168 #[.pointer (some ⟨it, 0, none⟩)] w fun e w' => Moved w D base p V f ns kb nb it sv st lim false none e w' := by
  obtain ⟨ics, hb, hi⟩ := h.blk
  have hi : Is ics p sv 0 false nilS nilS := hi
  have e1 := hb.cell hi.c1
  have e4 := hb.cell hi.c4
  have e5 := hb.cell hi.c5
  have HREL := Lib.hid (Released_calls e1)
  have HM := Lib.hid h
  clear h hb hi
  go_enter_defers Tryz.func168, Tryz.ntmps168
  go_wp2_with (go_at_call 174; (with_reducible refine HREL.out.mono ?_); rintro e w' ⟨rfl, rfl⟩)
  exact ⟨_, results_tmp rfl _ _ _, rfl, D.cs, HM.out, Fr.refl _ _⟩

set_option maxHeartbeats 3200000 in
set_option maxRecDepth 100000 in
theorem Prev_end {w : World} {D : MemD} {base p kb nb it : Nat} {V sv : Value} {f : List Int → List Int → Int} {ns : List Node} {st lim : Option (List Int)} {fw2 : Bool} {o2 : Option Node} (h : MIt w D base p V f ns kb nb it sv st lim true none) (hcall : Calls Tryz.prog 166 #[.pointer (some ⟨it, 0, none⟩)] w fun e w' => Moved w D base p V f ns kb nb it sv st lim fw2 o2 e w') :
    Calls Tryz.prog 168 #[.pointer (some ⟨it, 0, none⟩)] w fun e w' => Moved w D base p V f ns kb nb it sv st lim fw2 o2 e w' := by
  obtain ⟨ics, hb, hi⟩ := h.blk
  have hi : Is ics p sv 0 true nilS nilS := hi
  have e1 := hb.cell hi.c1
  have e4 := hb.cell hi.c4
  have e5 := hb.cell hi.c5
  have HREL := Lib.hid (Released_calls e1)
  have hc : Calls Tryz.prog 166 #[.pointer (some ⟨it, 0, none⟩)] w fun e w' => ∃ b : Bool, e = .returned (.bool b) ∧ Hid (b = o2.isSome) ∧ ∃ cs, MIt w' { D with cs := cs } base p V f ns kb nb it sv st lim fw2 o2 ∧ Fr w w' (fun k => k = it ∨ k = p) :=
    hcall.mono (by rintro e w' ⟨rfl, cs, h1, h2⟩; exact ⟨_, rfl, Lib.hid rfl, cs, h1, h2⟩)
  have HC := Lib.hid hc
  clear h hb hi hcall hc
  go_enter_defers Tryz.func168, Tryz.ntmps168
  go_wp2_with (first | (go_at_call 174; (with_reducible refine HREL.out.mono ?_); rintro e w' ⟨rfl, rfl⟩) | (go_at_call 166; (with_reducible refine HC.out.mono ?_); rintro e w4 ⟨bb, rfl, hbb, cs, hm, hf⟩))
  exact ⟨_, results_tmp rfl _ _ _, by rw [← hbb.out]; rfl, cs, hm, hf⟩

end Go.Proofs.YtdkkkikcigjlhaaGreatDoor.Md
