/- An iterator that merges iterators: Prev from a pair come to forward. -/
import Derived.Test.YtdkkkikcigjlhaaGreatDoorMj40
set_option linter.unusedVariables false
set_option linter.unusedSimpArgs false
namespace Go.Proofs.YtdkkkikcigjlhaaGreatDoor.Md
open Go.RowKit Go.Proofs.YtdkkkikcigjlhaaGreatDoor.Con Go.Proofs.YtdkkkikcigjlhaaGreatDoor.Run Go.Proofs.YtdkkkikcigjlhaaGreatDoorW.PrintWords Go.Proofs.YtdkkkikcigjlhaaGreatDoorW.PrintMore Go.Proofs.YtdkkkikcigjlhaaGreatDoor.Cmp Go.Sort Go.RwLone Go.Proofs.YtdkkkikcigjlhaaGreatDoor.PFnMemMap

section
variable {V : Value} {f : List Int → List Int → Int} {LL : List (List S44)} {L : List KV} {k : Nat} {Ai : Option Addr} {kc m kb : Nat} {R : Nat → Prop} {it : Nat → Nat} {w w1 : World} {pf : Nat → Int} {ka : Array Value} {i d t : Int} {c x : Nat}

set_option maxHeartbeats 12800000 in
set_option maxRecDepth 100000 in
theorem mgPrev_fw (hV : Cmpr V f) (hM : Mg f LL L) (hn : LL.length = k) (hl : k ≤ 4294967296) (hb : ∀ l ∈ LL, l.length ≤ 4294967296 ∧ ∀ x ∈ l, Byt x.f0) (hq : ∀ a ∈ L, a.1.length ≤ 4294967296) (h : MgS V LL k Ai kc m kb R it w pf ka i 3) (hc : c < L.length) (hF : MgFw f LL L k R w pf ka i c) :
    Calls Tryz.prog 214 #[.pointer (some ⟨m, 0, none⟩)] w fun e w' => MgMv f V LL L k Ai kc m kb R it ((c : Int) - 1) w e w' := by
  obtain ⟨hU, x, rfl, hx, hh⟩ := hF
  obtain ⟨ad, rfl, -, -⟩ := h.itr x hx
  obtain ⟨v, hv, hkv⟩ := (hU x hx).2
  rw [hh] at hkv
  obtain ⟨a, cc, rfl, hK, hby⟩ := hkv
  have hlen := hq _ (gK_mem hc)
  have HE := Lib.hid (And.intro hn (And.intro hl hb))
  have HM := Lib.hid (And.intro hM hc)
  have HXX := Lib.hid (And.intro hx hh)
  have HH := Lib.hid (And.intro h hU)
  have HV := Lib.hid hV
  have HBYT := Lib.hid hby
  have r5 : w.cell? ⟨m, 5, none⟩ = some (.int .i64 3) := (blk_cell h.bm 5).trans rfl
  have r6 : w.cell? ⟨m, 6, none⟩ = some .nilIface := (blk_cell h.bm 6).trans rfl
  have hq1 := below_alloc (Below.refl w.heap.size w) (.cells #[] 5)
  have hm2 := (hq1.block m (blk_lt h.bm)).trans h.bm
  have hk2 := (hq1.block kb (blk_lt h.bk)).trans h.bk
  have l0 : w.drew.cell? ⟨m, 3, none⟩ = some (.slice (some ⟨kb, 0, none⟩) k k) := (blk_cell h.bm 3).trans rfl
  have l1 : w.drew.cell? ⟨m, 4, none⟩ = some (.int .i64 (x : Int)) := (blk_cell h.bm 4).trans rfl
  have l2 : w.drew.cell? ⟨kb, x, none⟩ = some (.slice (some a) (gK L c).1.length cc) := (blk_cell h.bk x).trans hv
  have l3 : (w.alloc (.cells #[] 5)).drew.cell? ⟨m, 3, none⟩ = some (.slice (some ⟨kb, 0, none⟩) k k) := (blk_cell hm2 3).trans rfl
  have l4 : (w.alloc (.cells #[] 5)).drew.cell? ⟨m, 4, none⟩ = some (.int .i64 (x : Int)) := (blk_cell hm2 4).trans rfl
  have l5 : (w.alloc (.cells #[] 5)).drew.cell? ⟨kb, x, none⟩ = some (.slice (some a) (gK L c).1.length cc) := (blk_cell hk2 x).trans hv
  have E1 : Hid ((w.alloc (.cells #[] 5)).drew.heap[w.heap.size]? = some (.cells #[] 5 (0, 0))) := blk_new w _
  have B1 : Hid (Below w.heap.size w (w.alloc (.cells #[] 5)).drew) := Lib.hid hq1.drew
  have v1 : (x : Int) < (k : Int) := by omega
  have HKC := Lib.hid (And.intro (Kd.F_now hK) hlen)
  clear hU hx hh hv hby hlen h hV hM hn hb hc hq hq1 hm2 hk2 hK hl
  go_enter Tryz.func214, Tryz.ntmps214
  go_upto_region 10 with (fail)
  go_cut [3] (fun v3 w4 => ∃ A4 c4, v3 = .slice A4 (gK L c).1.length c4 ∧ Hid (Kd.C (Kd.int .u8) w4 A4 (gK L c).1.length (gK L c).1) ∧ Hid (∀ ad, A4 = some ad → w.heap.size ≤ ad.block) ∧ Hid (Below w.heap.size w w4))
  case first =>
    rename_i J K hJ hK
    go_region_law (refine copyM_step rfl (.tmp 40) (.tmp 50) 25 5 rfl Tryz.underlying25 info_u8 (gK L c).1 _ _ _ rfl rfl (by exact E1.out) (Nat.le_refl _) HKC.out.1 (by exact B1.out) HKC.out.2 ?_; intro A4 c4 w4 ho4 hb4 hg4 hat4)
    all_goals (
      simp only [Exit.then, Exit.inBlock]
      refine hK _ _ (Met.intro (hJ _ _ ?_))
      repeat apply Exists.intro
      refine ⟨?_, rfl⟩
      exact ⟨A4, c4, rfl, Lib.hid (Kd.F_now (own_F (ok := fun q => w.heap.size ≤ q ∧ q < w4.heap.size) ho4 (fun q hq => ⟨own_base ho4 q hq, own_lt ho4 q hq⟩))), Lib.hid (fun ad had => own_base ho4 ad.block (by rw [had]; rfl)), Lib.hid hb4⟩)
  case rest =>
    rename World => w4
    obtain ⟨A4, c4, rfl, HCC, HNE, HB4⟩ := hcut
    have HNB := Lib.hid (show 0 < (gK L c).1.length → ∀ ad, A4 = some ad → ¬ MgF k m kb it ad.block from fun _ ad had hin => by
      have h1 := HNE.out ad had
      have h2 := HH.out.1.top ad.block (.inl hin)
      omega)
    have HS4 := Lib.hid (HH.out.1.below HB4.out)
    have HU4 := Lib.hid (KyUp.below HH.out.1 HH.out.2 HB4.out)
    clear l0 l1 l2 l3 l4 l5 E1 B1 r5 r6
    have t1 : w4.cell? ⟨m, 1, none⟩ = some (.slice (some ad) k kc) := (blk_cell HS4.out.bm 1).trans rfl
    go_wp2
    go_loopg [57] k (fun kk vi w' => ∃ (j : Nat) (pf2 : Nat → Int) (ka2 : Array Value), vi = .int .i64 (j : Int) ∧ Hid (j ≤ k ∧ k ≤ j + kk) ∧ Hid (MgS V LL k (some ad) kc m kb R it w' pf2 ka2 (x : Int) 3) ∧ Hid (Fr w4 w' (MgF k m kb it)) ∧ Hid (KyUp w' LL R ka2 pf2 (tgM f L LL c x j) k))
    case atStart => exact ⟨0, pf, ka, rfl, Lib.hid ⟨Nat.zero_le _, by omega⟩, HS4, Lib.hid (Fr.refl _ _), Lib.hid (HU4.out.congr (fun y _ => (tgM_zero y).symm))⟩
    case round =>
      obtain ⟨j, pf2, ka2, rfl, HJ, HS, HF, HU⟩ := hrel
      by_cases hj : j < k
      · have z0 : decide ((j : Int) < (k : Int)) = true := decide_eq_true (by omega)
        have z2 : (j : Int) < (k : Int) := by omega
        have HJL := Lib.hid (And.intro hj HJ.out.2)
        have w1' : wrap64 ((j : Int) + 1) = (j : Int) + 1 := wz (by omega) (by have := HE.out.2.1; omega)
        have c0 : wr.cell? (ad.add j) = some (dtV (it j)) := by
          obtain ⟨ad2, e2, c0, -⟩ := HS.out.itr j hj
          injection e2 with e2
          rw [e2]; exact c0
        have r4 : wr.cell? ⟨m, 4, none⟩ = some (.int .i64 (x : Int)) := (blk_cell HS.out.bm 4).trans rfl
        by_cases hjx : j = x
        · subst hjx
          have y0 : ((j : Int) == (j : Int)) = true := beq_self_eq_true _
          clear hj
          go_wp2
          go_roundg (gk - 1)
          case measure => exact round_less HJL.out.1 HJL.out.2
          case rel => exact ⟨j + 1, pf2, ka2, (by first | rfl | exact congrArg _ w1'), Lib.hid (round_next HJL.out.1 HJL.out.2), HS, HF, Lib.hid (HU.out.congr (fun y _ => (tgM_skip y).symm))⟩
        · have y0 : ((j : Int) == (x : Int)) = false := by rw [beq_eq_false_iff_ne]; omega
          obtain ⟨n, hn0⟩ : ∃ n, cntG f L (LL.getD j []) c = n := ⟨_, rfl⟩
          have hnl : n ≤ (LL.getD j []).length := by rw [← hn0]; exact cnt_le_len _
          have hfe : findL f (gK L c).1 (kvS (LL.getD j [])) = n := by rw [HM.out.1.seek (by rw [HE.out.1]; exact hj), find_self HM.out.1 HM.out.2]; exact hn0
          have hmem := mem_at2 HE.out.1 hj
          have HDN := Lib.hid (dnSeek (d := c4) HV.out (HE.out.2.2 _ hmem).1 (HE.out.2.2 _ hmem).2 (HS.out.dt j hj) (HF.out.C HCC.out HNB.out) HBYT.out)
          rw [hfe] at HDN
          have HSW := Lib.hid (show ∀ (W : World) (p : Int) (v : Value) (u : Int), u = (n : Int) - 1 → (∀ q, R q → q < wr.heap.size → W.heap[q]? = wr.heap[q]?) → StP (LL.getD j []) p u → KyV W R (hdP (LL.getD j []) u) v → KyUp W LL R (ka2.setIfInBounds j v) (fun y => if y = j then p else pf2 y) (tgM f L LL c x (j + 1)) k from fun W p v u h0 h1 h2 h3 => by
            have ex : tgM f L LL c x (j + 1) j = u := by rw [tgM_at hjx]; unfold tgB; rw [hn0, h0]
            exact HU.out.swap h1 HS.out.sz hj (fun y hy hne => tgM_off hne) (by rw [ex]; exact h2) (by rw [ex]; exact h3))
          have n3 : ∀ w, (nilAhead 418 161 (.pointer (some ⟨it j, 0, none⟩)) "Seek").run Tryz.prog w = .ok (some false) w := fun w => by kernel_rfl
          have m3 : ∀ w, (method 418 161 (.pointer (some ⟨it j, 0, none⟩)) "Seek").run Tryz.prog w = .ok (199, .pointer (some ⟨it j, 0, none⟩)) w := fun w => by kernel_rfl
          have q3 : ∀ (args : Array Value) (w : World), (callFunc 199 args).run Tryz.prog w = .ok (.enter 199 args) w := fun args w => Go.MuLone.run_callFunc_enter Tryz.func199 (by kernel_rfl) rfl args w
          have HMV := Lib.hid (show ∀ (w1 : World) (p : Int), DtN V LL m kb R w1 j (it j) p → Fr wr w1 (fun q => q = it j) → MgS V LL k (some ad) kc m kb R it w1 (fun y => if y = j then p else pf2 y) ka2 (x : Int) 3 from fun w1 p hd hf => HS.out.move hj hd hf)
          have HR := Lib.hid HS.out.nr
          have HX := Lib.hid hj
          by_cases h0 : n < (LL.getD j []).length
          · rw [decide_eq_true h0] at HDN
            have n5 : ∀ w, (nilAhead 418 161 (.pointer (some ⟨it j, 0, none⟩)) "Prev").run Tryz.prog w = .ok (some false) w := fun w => by kernel_rfl
            have m5 : ∀ w, (method 418 161 (.pointer (some ⟨it j, 0, none⟩)) "Prev").run Tryz.prog w = .ok (197, .pointer (some ⟨it j, 0, none⟩)) w := fun w => by kernel_rfl
            have q5 : ∀ (args : Array Value) (w : World), (callFunc 197 args).run Tryz.prog w = .ok (.enter 197 args) w := fun args w => Go.MuLone.run_callFunc_enter Tryz.func197 (by kernel_rfl) rfl args w
            by_cases h1 : (0 : Int) ≤ (n : Int) - 1
            · obtain ⟨p1, hp1⟩ : ∃ p1, n = p1 + 1 := ⟨n - 1, by omega⟩
              have HP1 := Lib.hid (show (p1 : Int) = (n : Int) - 1 by omega)
              have HD2 := Lib.hid (show ∀ w1, DtN V LL m kb R w1 j (it j) (n : Int) → Calls Tryz.prog 197 #[.pointer (some ⟨it j, 0, none⟩)] w1 fun e w' => DnTold V LL m kb R j (it j) true (p1 : Int) w1 e w' from fun w1 hd => by
                have h := dnPrev (HE.out.2.2 _ hmem).1 hd
                rw [decide_eq_true h1, if_pos h1, ← HP1.out] at h
                exact h)
              have hon : onL (kvS (LL.getD j [])) (p1 : Int) = true := on_p (by omega)
              have HYES := Lib.hid (hdP_yes hon)
              have HBY := Lib.hid (keyL_byt (HE.out.2.2 _ hmem).2 (p1 : Int))
              have HKEY := Lib.hid (show ∀ w1, DtN V LL m kb R w1 j (it j) (p1 : Int) → Calls Tryz.prog 194 #[.pointer (some ⟨it j, 0, none⟩)] w1 fun e w' => DyTold V LL m kb R j (it j) (p1 : Int) w1 e w' from fun w1 hd => dnKey HV.out (HE.out.2.2 _ hmem).1 (HE.out.2.2 _ hmem).2 hd hon)
              have n4 : ∀ w, (nilAhead 418 161 (.pointer (some ⟨it j, 0, none⟩)) "Key").run Tryz.prog w = .ok (some false) w := fun w => by kernel_rfl
              have m4 : ∀ w, (method 418 161 (.pointer (some ⟨it j, 0, none⟩)) "Key").run Tryz.prog w = .ok (194, .pointer (some ⟨it j, 0, none⟩)) w := fun w => by kernel_rfl
              have q4 : ∀ (args : Array Value) (w : World), (callFunc 194 args).run Tryz.prog w = .ok (.enter 194 args) w := fun args w => Go.MuLone.run_callFunc_enter Tryz.func194 (by kernel_rfl) rfl args w
              clear hn0 hfe hmem hj hjx hnl h0 h1 hon
              go_upto_region 19 with (first
                | ((with_reducible refine HDN.out.mono ?_); rintro e w1 ⟨rfl, hd1, hf1⟩)
                | ((with_reducible refine (HD2.out _ hd1.out).mono ?_); rintro e w2 ⟨rfl, hdz, hf2⟩; have hfz := Lib.hid (hf1.out.then_ hf2.out (fun q hq => .inl hq)); clear hf1 hf2 hd1))
              have hdd : DtN V LL m kb R w2.drew j (it j) (p1 : Int) := hdz.out.keep (fun _ _ => rfl) (Nat.le_refl _)
              have hff : Fr wr w2.drew (fun q => q = it j) := hfz.out.then_ (Fr.of_below (below_drew (Below.refl _ _)) (fun _ => False)) (fun q e => e.elim)
              have HSD := Lib.hid (HMV.out _ _ hdd hff)
              have HK1 := Lib.hid (HKEY.out _ hdd)
              have HFF := Lib.hid hff
              have s3 : w2.drew.cell? ⟨m, 3, none⟩ = some (.slice (some ⟨kb, 0, none⟩) k k) := (blk_cell HSD.out.bm 3).trans rfl
              clear hdd hff hdz hfz
              go_region_with (first
                | ((with_reducible refine HK1.out.mono ?_); rintro e w3 ⟨a2, c2, rfl, hF2, hd2, hf2⟩; have HS2 := Lib.hid (HMV.out w3 _ hd2.out (HFF.out.then_ hf2.out (fun q hq => .inl hq))); have t3 : w3.cell? ⟨m, 3, none⟩ = some (.slice (some ⟨kb, 0, none⟩) k k) := (blk_cell HS2.out.bm 3).trans rfl; have fk := blk_frozen HS2.out.bk j; have ck : ∃ v, w3.cell? ⟨kb, j, none⟩ = some v := ⟨_, (blk_cell HS2.out.bk j).trans (Array.getElem?_eq_getElem (by rw [HS2.out.sz]; exact HX.out))⟩; obtain ⟨vk, ck⟩ := ck)
                | (go_at_call 220; (with_reducible refine (assert_calls _ _ _ _).mono ?_); rintro e wz ⟨rfl, rfl⟩))
              all_goals (
                rename_i K' hK'
                simp only [Exit.then, Exit.inBlock]
                refine hK' _ _ ?_
                have hfw : Fr wr w3 (fun q => q = it j) := HFF.out.then_ hf2.out (fun q hq => .inl hq)
                have HKP := Lib.hid (show ∀ q, R q → q < wr.heap.size → (w3.setCell ⟨kb, j, none⟩ (.slice (some a2) (keyL (kvS (LL.getD j [])) (p1 : Int)).length c2)).heap[q]? = wr.heap[q]? from fun q hq hlt => (Below.heap_setCell _ _ _ q (HR.out q hq).2.1).trans (hfw.block q hlt (fun e => hd2.out.2.2.1 (by rw [← e]; exact hq))))
                have HKY : Hid (KyV (w3.setCell ⟨kb, j, none⟩ (.slice (some a2) (keyL (kvS (LL.getD j [])) (p1 : Int)).length c2)) R (hdP (LL.getD j []) (p1 : Int)) (.slice (some a2) (keyL (kvS (LL.getD j [])) (p1 : Int)).length c2)) := Lib.hid (by
                  rw [HYES.out]
                  exact ⟨a2, c2, rfl, Kd.F_step hF2.out (fun q hq _ => Below.heap_setCell _ _ _ q (HR.out q hq).2.1), HBY.out⟩)
                have HFZ := Lib.hid (((hfw.mono (fun q hq => .inr (.inr ⟨j, HX.out, hq⟩))).setCell (p := ⟨kb, j, none⟩) (.inl (.inr (.inl rfl))) (.slice (some a2) (keyL (kvS (LL.getD j [])) (p1 : Int)).length c2) : Fr wr (w3.setCell ⟨kb, j, none⟩ (.slice (some a2) (keyL (kvS (LL.getD j [])) (p1 : Int)).length c2)) (MgF k m kb it)))
                have HSK2 := Lib.hid (HS2.out.setKey (x := j) (.slice (some a2) (keyL (kvS (LL.getD j [])) (p1 : Int)).length c2))
                clear hfw
                go_wp2
                go_roundg (gk - 1)
                case measure => exact round_less HJL.out.1 HJL.out.2
                case rel => exact ⟨j + 1, _, _, (by first | rfl | exact congrArg _ w1'), Lib.hid (round_next HJL.out.1 HJL.out.2), HSK2, Lib.hid (HF.out.then_ HFZ.out (fun q hq => .inl hq)), Lib.hid (HSW.out _ (p1 : Int) _ (p1 : Int) HP1.out HKP.out (.inr rfl) HKY.out)⟩)
            · have HPN := Lib.hid (show (-1 : Int) = (n : Int) - 1 by omega)
              have HKN := Lib.hid (show ∀ W : World, KyV W R (hdP (LL.getD j []) (-1 : Int)) (.slice none 0 0) from fun W => by rw [hdP_off (.inl (by omega))]; rfl)
              have HST : Hid (StP (LL.getD j []) (-1) (-1)) := Lib.hid (.inr rfl)
              have HD2 := Lib.hid (show ∀ w1, DtN V LL m kb R w1 j (it j) (n : Int) → Calls Tryz.prog 197 #[.pointer (some ⟨it j, 0, none⟩)] w1 fun e w' => DnTold V LL m kb R j (it j) false (-1) w1 e w' from fun w1 hd => by
                have h := dnPrev (HE.out.2.2 _ hmem).1 hd
                rw [decide_eq_false h1, if_neg h1] at h
                exact h)
              clear hn0 hfe hmem hj hjx hnl h0 h1
              go_wp2_with (first
                | ((with_reducible refine HDN.out.mono ?_); rintro e w1 ⟨rfl, hd1, hf1⟩)
                | ((with_reducible refine (HD2.out _ hd1.out).mono ?_); rintro e w2 ⟨rfl, hdz, hf2⟩; have hfz := Lib.hid (hf1.out.then_ hf2.out (fun q hq => .inl hq)); clear hf1 hf2 hd1; have HS1 := Lib.hid (HMV.out w2 _ hdz.out hfz.out); have s3 : w2.cell? ⟨m, 3, none⟩ = some (.slice (some ⟨kb, 0, none⟩) k k) := (blk_cell HS1.out.bm 3).trans rfl; have fk := blk_frozen HS1.out.bk j; have ck : ∃ v, w2.cell? ⟨kb, j, none⟩ = some v := ⟨_, (blk_cell HS1.out.bk j).trans (Array.getElem?_eq_getElem (by rw [HS1.out.sz]; exact HX.out))⟩; obtain ⟨vk, ck⟩ := ck)
                | (go_at_call 221; (with_reducible refine (iterErr_calls hdz.out).mono ?_); rintro e wz ⟨rfl, rfl⟩))
              have HKP := Lib.hid (show ∀ q, R q → q < wr.heap.size → (w2.setCell ⟨kb, j, none⟩ (.slice none 0 0)).heap[q]? = wr.heap[q]? from fun q hq hlt => (Below.heap_setCell _ _ _ q (HR.out q hq).2.1).trans (hfz.out.block q hlt (fun e => hdz.out.2.2.1 (by rw [← e]; exact hq))))
              have HFZ := Lib.hid (((hfz.out.mono (fun q hq => .inr (.inr ⟨j, HX.out, hq⟩))).setCell (p := ⟨kb, j, none⟩) (.inl (.inr (.inl rfl))) (.slice none 0 0) : Fr wr (w2.setCell ⟨kb, j, none⟩ (.slice none 0 0)) (MgF k m kb it)))
              have HSK2 := Lib.hid (HS1.out.setKey (x := j) (.slice none 0 0))
              go_roundg (gk - 1)
              case measure => exact round_less HJL.out.1 HJL.out.2
              case rel => exact ⟨j + 1, _, _, (by first | rfl | exact congrArg _ w1'), Lib.hid (round_next HJL.out.1 HJL.out.2), HSK2, Lib.hid (HF.out.then_ HFZ.out (fun q hq => .inl hq)), Lib.hid (HSW.out _ _ _ (-1) HPN.out HKP.out HST.out (HKN.out _))⟩
          · rw [decide_eq_false h0] at HDN
            have n5 : ∀ w, (nilAhead 418 161 (.pointer (some ⟨it j, 0, none⟩)) "Last").run Tryz.prog w = .ok (some false) w := fun w => by kernel_rfl
            have m5 : ∀ w, (method 418 161 (.pointer (some ⟨it j, 0, none⟩)) "Last").run Tryz.prog w = .ok (195, .pointer (some ⟨it j, 0, none⟩)) w := fun w => by kernel_rfl
            have q5 : ∀ (args : Array Value) (w : World), (callFunc 195 args).run Tryz.prog w = .ok (.enter 195 args) w := fun args w => Go.MuLone.run_callFunc_enter Tryz.func195 (by kernel_rfl) rfl args w
            by_cases h1 : 0 < (LL.getD j []).length
            · obtain ⟨p1, hp1⟩ : ∃ p1, n = p1 + 1 := ⟨n - 1, by omega⟩
              have HP1 := Lib.hid (show (p1 : Int) = (n : Int) - 1 by omega)
              have HD2 := Lib.hid (show ∀ w1, DtN V LL m kb R w1 j (it j) (n : Int) → Calls Tryz.prog 195 #[.pointer (some ⟨it j, 0, none⟩)] w1 fun e w' => DnTold V LL m kb R j (it j) true (p1 : Int) w1 e w' from fun w1 hd => by
                have h := dnLast HV.out (HE.out.2.2 _ hmem).1 (HE.out.2.2 _ hmem).2 hd
                rw [decide_eq_true h1, if_neg (by omega), show ((LL.getD j []).length : Int) - 1 = (p1 : Int) by omega] at h
                exact h)
              have hon : onL (kvS (LL.getD j [])) (p1 : Int) = true := on_p (by omega)
              have HYES := Lib.hid (hdP_yes hon)
              have HBY := Lib.hid (keyL_byt (HE.out.2.2 _ hmem).2 (p1 : Int))
              have HKEY := Lib.hid (show ∀ w1, DtN V LL m kb R w1 j (it j) (p1 : Int) → Calls Tryz.prog 194 #[.pointer (some ⟨it j, 0, none⟩)] w1 fun e w' => DyTold V LL m kb R j (it j) (p1 : Int) w1 e w' from fun w1 hd => dnKey HV.out (HE.out.2.2 _ hmem).1 (HE.out.2.2 _ hmem).2 hd hon)
              have n4 : ∀ w, (nilAhead 418 161 (.pointer (some ⟨it j, 0, none⟩)) "Key").run Tryz.prog w = .ok (some false) w := fun w => by kernel_rfl
              have m4 : ∀ w, (method 418 161 (.pointer (some ⟨it j, 0, none⟩)) "Key").run Tryz.prog w = .ok (194, .pointer (some ⟨it j, 0, none⟩)) w := fun w => by kernel_rfl
              have q4 : ∀ (args : Array Value) (w : World), (callFunc 194 args).run Tryz.prog w = .ok (.enter 194 args) w := fun args w => Go.MuLone.run_callFunc_enter Tryz.func194 (by kernel_rfl) rfl args w
              clear hn0 hfe hmem hj hjx hnl h0 h1 hon
              go_upto_region 19 with (first
                | ((with_reducible refine HDN.out.mono ?_); rintro e w1 ⟨rfl, hd1, hf1⟩)
                | ((with_reducible refine (HD2.out _ hd1.out).mono ?_); rintro e w2 ⟨rfl, hdz, hf2⟩; have hfz := Lib.hid (hf1.out.then_ hf2.out (fun q hq => .inl hq)); clear hf1 hf2 hd1))
              have hdd : DtN V LL m kb R w2.drew j (it j) (p1 : Int) := hdz.out.keep (fun _ _ => rfl) (Nat.le_refl _)
              have hff : Fr wr w2.drew (fun q => q = it j) := hfz.out.then_ (Fr.of_below (below_drew (Below.refl _ _)) (fun _ => False)) (fun q e => e.elim)
              have HSD := Lib.hid (HMV.out _ _ hdd hff)
              have HK1 := Lib.hid (HKEY.out _ hdd)
              have HFF := Lib.hid hff
              have s3 : w2.drew.cell? ⟨m, 3, none⟩ = some (.slice (some ⟨kb, 0, none⟩) k k) := (blk_cell HSD.out.bm 3).trans rfl
              clear hdd hff hdz hfz
              go_region_with (first
                | ((with_reducible refine HK1.out.mono ?_); rintro e w3 ⟨a2, c2, rfl, hF2, hd2, hf2⟩; have HS2 := Lib.hid (HMV.out w3 _ hd2.out (HFF.out.then_ hf2.out (fun q hq => .inl hq))); have t3 : w3.cell? ⟨m, 3, none⟩ = some (.slice (some ⟨kb, 0, none⟩) k k) := (blk_cell HS2.out.bm 3).trans rfl; have fk := blk_frozen HS2.out.bk j; have ck : ∃ v, w3.cell? ⟨kb, j, none⟩ = some v := ⟨_, (blk_cell HS2.out.bk j).trans (Array.getElem?_eq_getElem (by rw [HS2.out.sz]; exact HX.out))⟩; obtain ⟨vk, ck⟩ := ck)
                | (go_at_call 220; (with_reducible refine (assert_calls _ _ _ _).mono ?_); rintro e wz ⟨rfl, rfl⟩))
              all_goals (
                rename_i K' hK'
                simp only [Exit.then, Exit.inBlock]
                refine hK' _ _ ?_
                have hfw : Fr wr w3 (fun q => q = it j) := HFF.out.then_ hf2.out (fun q hq => .inl hq)
                have HKP := Lib.hid (show ∀ q, R q → q < wr.heap.size → (w3.setCell ⟨kb, j, none⟩ (.slice (some a2) (keyL (kvS (LL.getD j [])) (p1 : Int)).length c2)).heap[q]? = wr.heap[q]? from fun q hq hlt => (Below.heap_setCell _ _ _ q (HR.out q hq).2.1).trans (hfw.block q hlt (fun e => hd2.out.2.2.1 (by rw [← e]; exact hq))))
                have HKY : Hid (KyV (w3.setCell ⟨kb, j, none⟩ (.slice (some a2) (keyL (kvS (LL.getD j [])) (p1 : Int)).length c2)) R (hdP (LL.getD j []) (p1 : Int)) (.slice (some a2) (keyL (kvS (LL.getD j [])) (p1 : Int)).length c2)) := Lib.hid (by
                  rw [HYES.out]
                  exact ⟨a2, c2, rfl, Kd.F_step hF2.out (fun q hq _ => Below.heap_setCell _ _ _ q (HR.out q hq).2.1), HBY.out⟩)
                have HFZ := Lib.hid (((hfw.mono (fun q hq => .inr (.inr ⟨j, HX.out, hq⟩))).setCell (p := ⟨kb, j, none⟩) (.inl (.inr (.inl rfl))) (.slice (some a2) (keyL (kvS (LL.getD j [])) (p1 : Int)).length c2) : Fr wr (w3.setCell ⟨kb, j, none⟩ (.slice (some a2) (keyL (kvS (LL.getD j [])) (p1 : Int)).length c2)) (MgF k m kb it)))
                have HSK2 := Lib.hid (HS2.out.setKey (x := j) (.slice (some a2) (keyL (kvS (LL.getD j [])) (p1 : Int)).length c2))
                clear hfw
                go_wp2
                go_roundg (gk - 1)
                case measure => exact round_less HJL.out.1 HJL.out.2
                case rel => exact ⟨j + 1, _, _, (by first | rfl | exact congrArg _ w1'), Lib.hid (round_next HJL.out.1 HJL.out.2), HSK2, Lib.hid (HF.out.then_ HFZ.out (fun q hq => .inl hq)), Lib.hid (HSW.out _ (p1 : Int) _ (p1 : Int) HP1.out HKP.out (.inr rfl) HKY.out)⟩)
            · have HPN := Lib.hid (show (-1 : Int) = (n : Int) - 1 by omega)
              have HKN := Lib.hid (show ∀ W : World, KyV W R (hdP (LL.getD j []) (-1 : Int)) (.slice none 0 0) from fun W => by rw [hdP_off (.inl (by omega))]; rfl)
              have HST : Hid (StP (LL.getD j []) 0 (-1)) := Lib.hid (.inl (by omega))
              have HD2 := Lib.hid (show ∀ w1, DtN V LL m kb R w1 j (it j) (n : Int) → Calls Tryz.prog 195 #[.pointer (some ⟨it j, 0, none⟩)] w1 fun e w' => DnTold V LL m kb R j (it j) false 0 w1 e w' from fun w1 hd => by
                have h := dnLast HV.out (HE.out.2.2 _ hmem).1 (HE.out.2.2 _ hmem).2 hd
                rw [decide_eq_false h1, if_pos (by omega)] at h
                exact h)
              clear hn0 hfe hmem hj hjx hnl h0 h1
              go_wp2_with (first
                | ((with_reducible refine HDN.out.mono ?_); rintro e w1 ⟨rfl, hd1, hf1⟩)
                | ((with_reducible refine (HD2.out _ hd1.out).mono ?_); rintro e w2 ⟨rfl, hdz, hf2⟩; have hfz := Lib.hid (hf1.out.then_ hf2.out (fun q hq => .inl hq)); clear hf1 hf2 hd1; have HS1 := Lib.hid (HMV.out w2 _ hdz.out hfz.out); have s3 : w2.cell? ⟨m, 3, none⟩ = some (.slice (some ⟨kb, 0, none⟩) k k) := (blk_cell HS1.out.bm 3).trans rfl; have fk := blk_frozen HS1.out.bk j; have ck : ∃ v, w2.cell? ⟨kb, j, none⟩ = some v := ⟨_, (blk_cell HS1.out.bk j).trans (Array.getElem?_eq_getElem (by rw [HS1.out.sz]; exact HX.out))⟩; obtain ⟨vk, ck⟩ := ck)
                | (go_at_call 221; (with_reducible refine (iterErr_calls hdz.out).mono ?_); rintro e wz ⟨rfl, rfl⟩))
              have HKP := Lib.hid (show ∀ q, R q → q < wr.heap.size → (w2.setCell ⟨kb, j, none⟩ (.slice none 0 0)).heap[q]? = wr.heap[q]? from fun q hq hlt => (Below.heap_setCell _ _ _ q (HR.out q hq).2.1).trans (hfz.out.block q hlt (fun e => hdz.out.2.2.1 (by rw [← e]; exact hq))))
              have HFZ := Lib.hid (((hfz.out.mono (fun q hq => .inr (.inr ⟨j, HX.out, hq⟩))).setCell (p := ⟨kb, j, none⟩) (.inl (.inr (.inl rfl))) (.slice none 0 0) : Fr wr (w2.setCell ⟨kb, j, none⟩ (.slice none 0 0)) (MgF k m kb it)))
              have HSK2 := Lib.hid (HS1.out.setKey (x := j) (.slice none 0 0))
              go_roundg (gk - 1)
              case measure => exact round_less HJL.out.1 HJL.out.2
              case rel => exact ⟨j + 1, _, _, (by first | rfl | exact congrArg _ w1'), Lib.hid (round_next HJL.out.1 HJL.out.2), HSK2, Lib.hid (HF.out.then_ HFZ.out (fun q hq => .inl hq)), Lib.hid (HSW.out _ _ _ (-1) HPN.out HKP.out HST.out (HKN.out _))⟩
      · have z0 : decide ((j : Int) < (k : Int)) = false := decide_eq_false (by omega)
        have z2 : ¬ (j : Int) < (k : Int) := by omega
        have hjk : j = k := by have := HJ.out.1; omega
        rw [hjk] at HU
        obtain ⟨n, e1, hnl, hcn, hcn1, hoth⟩ := HM.out.1.steps HM.out.2 (by rw [HE.out.1]; exact HXX.out.1) HXX.out.2
        have HPX := Lib.hid (show pf2 x = (n : Int) from (stands (show StP (LL.getD x []) (pf2 x) (tgF f L LL c x) by have := (HU.out x HXX.out.1).1; rw [tgM_self] at this; exact this) HXX.out.2).trans e1)
        have HNL := Lib.hid hnl
        have HX := Lib.hid HXX.out.1
        have HSW := Lib.hid (show ∀ (W : World) (p : Int) (v : Value) (u : Int), u = (n : Int) - 1 → (∀ q, R q → q < wr.heap.size → W.heap[q]? = wr.heap[q]?) → StP (LL.getD x []) p u → KyV W R (hdP (LL.getD x []) u) v → KyUp W LL R (ka2.setIfInBounds x v) (fun y => if y = x then p else pf2 y) (tgB f L LL c) k from fun W p v u h0 h1 h2 h3 => by
          have ex : tgB f L LL c x = u := by unfold tgB; rw [hcn, h0]
          exact HU.out.swap h1 HS.out.sz HX.out (fun y hy hne => (tgM_end hy hne).symm) (by rw [ex]; exact h2) (by rw [ex]; exact h3))
        clear hjk hj e1 hnl hcn hcn1 hoth
        have r4 : wr.cell? ⟨m, 4, none⟩ = some (.int .i64 (x : Int)) := (blk_cell HS.out.bm 4).trans rfl
        have r1 : wr.cell? ⟨m, 1, none⟩ = some (.slice (some ad) k kc) := (blk_cell HS.out.bm 1).trans rfl
        have c0 : wr.cell? (ad.add x) = some (dtV (it x)) := by
          obtain ⟨ad2, e2, c0, -⟩ := HS.out.itr x HX.out
          injection e2 with e2
          rw [e2]; exact c0
        have v1 : (x : Int) < (k : Int) := by have := HX.out; omega
        have hmem := mem_at2 HE.out.1 HX.out
        have hdx : DtN V LL m kb R wr x (it x) (n : Int) := by rw [← HPX.out]; exact HS.out.dt x HX.out
        have HDN := Lib.hid (dnPrev (HE.out.2.2 _ hmem).1 hdx)
        have n3 : ∀ w, (nilAhead 418 161 (.pointer (some ⟨it x, 0, none⟩)) "Prev").run Tryz.prog w = .ok (some false) w := fun w => by kernel_rfl
        have m3 : ∀ w, (method 418 161 (.pointer (some ⟨it x, 0, none⟩)) "Prev").run Tryz.prog w = .ok (197, .pointer (some ⟨it x, 0, none⟩)) w := fun w => by kernel_rfl
        have q3 : ∀ (args : Array Value) (w : World), (callFunc 197 args).run Tryz.prog w = .ok (.enter 197 args) w := fun args w => Go.MuLone.run_callFunc_enter Tryz.func197 (by kernel_rfl) rfl args w
        have HMV := Lib.hid (show ∀ (w1 : World) (p : Int), DtN V LL m kb R w1 x (it x) p → Fr wr w1 (fun q => q = it x) → MgS V LL k (some ad) kc m kb R it w1 (fun y => if y = x then p else pf2 y) ka2 (x : Int) 3 from fun w1 p hd hf => HS.out.move HX.out hd hf)
        have HSC := Lib.hid (show ∀ (W : World) (pf3 : Nat → Int) (ka3 : Array Value), MgS V LL k (some ad) kc m kb R it W pf3 ka3 (x : Int) 3 → KyUp W LL R ka3 pf3 (tgB f L LL c) k → Calls Tryz.prog 223 #[.pointer (some ⟨m, 0, none⟩)] W fun e w' => MgMv f V LL L k (some ad) kc m kb R it ((c : Int) - 1) W e w' from fun W pf3 ka3 h1 h2 => scan_bw HV.out HM.out.1 HE.out.1 HE.out.2.1 h1 h2 (Nat.le_of_lt HM.out.2) (fun _ => ⟨x, rfl, HX.out⟩))
        have HR := Lib.hid HS.out.nr
        by_cases h0 : (0 : Int) ≤ (n : Int) - 1
        · obtain ⟨p1, hp1⟩ : ∃ p1, n = p1 + 1 := ⟨n - 1, by omega⟩
          have HP1 := Lib.hid (show (p1 : Int) = (n : Int) - 1 by omega)
          have hnl := HNL.out
          rw [decide_eq_true h0, if_pos h0, ← HP1.out] at HDN
          have hon : onL (kvS (LL.getD x [])) (p1 : Int) = true := on_p (by omega)
          have HYES := Lib.hid (hdP_yes hon)
          have HBY := Lib.hid (keyL_byt (HE.out.2.2 _ hmem).2 (p1 : Int))
          have HKEY := Lib.hid (show ∀ w1, DtN V LL m kb R w1 x (it x) (p1 : Int) → Calls Tryz.prog 194 #[.pointer (some ⟨it x, 0, none⟩)] w1 fun e w' => DyTold V LL m kb R x (it x) (p1 : Int) w1 e w' from fun w1 hd => dnKey HV.out (HE.out.2.2 _ hmem).1 (HE.out.2.2 _ hmem).2 hd hon)
          have n4 : ∀ w, (nilAhead 418 161 (.pointer (some ⟨it x, 0, none⟩)) "Key").run Tryz.prog w = .ok (some false) w := fun w => by kernel_rfl
          have m4 : ∀ w, (method 418 161 (.pointer (some ⟨it x, 0, none⟩)) "Key").run Tryz.prog w = .ok (194, .pointer (some ⟨it x, 0, none⟩)) w := fun w => by kernel_rfl
          have q4 : ∀ (args : Array Value) (w : World), (callFunc 194 args).run Tryz.prog w = .ok (.enter 194 args) w := fun args w => Go.MuLone.run_callFunc_enter Tryz.func194 (by kernel_rfl) rfl args w
          clear h0 hp1 hnl hmem hdx hon
          go_upto_region 27 with ((with_reducible refine HDN.out.mono ?_); rintro e w1 ⟨rfl, hdz, hfz⟩)
          have hdd : DtN V LL m kb R w1.drew x (it x) (p1 : Int) := hdz.out.keep (fun _ _ => rfl) (Nat.le_refl _)
          have hff : Fr wr w1.drew (fun q => q = it x) := hfz.out.then_ (Fr.of_below (below_drew (Below.refl _ _)) (fun _ => False)) (fun q e => e.elim)
          have HSD := Lib.hid (HMV.out _ _ hdd hff)
          have HK1 := Lib.hid (HKEY.out _ hdd)
          have HFF := Lib.hid hff
          have s3 : w1.drew.cell? ⟨m, 3, none⟩ = some (.slice (some ⟨kb, 0, none⟩) k k) := (blk_cell HSD.out.bm 3).trans rfl
          clear hdd hff hdz hfz
          go_region_with (first
            | ((with_reducible refine HK1.out.mono ?_); rintro e w2 ⟨a2, c2, rfl, hF2, hd2, hf2⟩; have HS2 := Lib.hid (HMV.out w2 _ hd2.out (HFF.out.then_ hf2.out (fun q hq => .inl hq))); have t3 : w2.cell? ⟨m, 3, none⟩ = some (.slice (some ⟨kb, 0, none⟩) k k) := (blk_cell HS2.out.bm 3).trans rfl; have fk := blk_frozen HS2.out.bk x; have ck : ∃ v, w2.cell? ⟨kb, x, none⟩ = some v := ⟨_, (blk_cell HS2.out.bk x).trans (Array.getElem?_eq_getElem (by rw [HS2.out.sz]; exact HX.out))⟩; obtain ⟨vk, ck⟩ := ck)
            | (go_at_call 220; (with_reducible refine (assert_calls _ _ _ _).mono ?_); rintro e wz ⟨rfl, rfl⟩))
          all_goals (
            rename_i K' hK'
            simp only [Exit.then, Exit.inBlock]
            refine hK' _ _ ?_
            have hfw : Fr wr w2 (fun q => q = it x) := HFF.out.then_ hf2.out (fun q hq => .inl hq)
            have HKP := Lib.hid (show ∀ q, R q → q < wr.heap.size → (w2.setCell ⟨kb, x, none⟩ (.slice (some a2) (keyL (kvS (LL.getD x [])) (p1 : Int)).length c2)).heap[q]? = wr.heap[q]? from fun q hq hlt => (Below.heap_setCell _ _ _ q (HR.out q hq).2.1).trans (hfw.block q hlt (fun e => hd2.out.2.2.1 (by rw [← e]; exact hq))))
            have HKY : Hid (KyV (w2.setCell ⟨kb, x, none⟩ (.slice (some a2) (keyL (kvS (LL.getD x [])) (p1 : Int)).length c2)) R (hdP (LL.getD x []) (p1 : Int)) (.slice (some a2) (keyL (kvS (LL.getD x [])) (p1 : Int)).length c2)) := Lib.hid (by
              rw [HYES.out]
              exact ⟨a2, c2, rfl, Kd.F_step hF2.out (fun q hq _ => Below.heap_setCell _ _ _ q (HR.out q hq).2.1), HBY.out⟩)
            have HFZ := Lib.hid (((hfw.mono (fun q hq => .inr (.inr ⟨x, HX.out, hq⟩))).setCell (p := ⟨kb, x, none⟩) (.inl (.inr (.inl rfl))) (.slice (some a2) (keyL (kvS (LL.getD x [])) (p1 : Int)).length c2) : Fr wr (w2.setCell ⟨kb, x, none⟩ (.slice (some a2) (keyL (kvS (LL.getD x [])) (p1 : Int)).length c2)) (MgF k m kb it)))
            have HSK2 := Lib.hid (HS2.out.setKey (x := x) (.slice (some a2) (keyL (kvS (LL.getD x [])) (p1 : Int)).length c2))
            clear hfw
            have HNX := Lib.hid (HSC.out _ _ _ HSK2.out (HSW.out _ (p1 : Int) _ (p1 : Int) HP1.out HKP.out (.inr rfl) HKY.out))
            go_wp2_with (go_at_call 223; go_loud (refine HNX.out.mono ?_); rintro e w6 ⟨bb, rfl, h1, h2, h3⟩)
            go_ret
            exact ⟨bb, rfl, h1, h2, Lib.hid ((Fr.of_below HB4.out (MgF k m kb it)).then_ (HF.out.then_ (HFZ.out.then_ h3.out (fun q hq => .inl hq)) (fun q hq => .inl hq)) (fun q hq => .inl hq))⟩)
        · rw [decide_eq_false h0, if_neg h0] at HDN
          have HPN := Lib.hid (show (-1 : Int) = (n : Int) - 1 by omega)
          have HKN := Lib.hid (show ∀ W : World, KyV W R (hdP (LL.getD x []) (-1 : Int)) (.slice none 0 0) from fun W => by rw [hdP_off (.inl (by omega))]; rfl)
          clear h0 hmem hdx
          go_wp2_with (first
            | ((with_reducible refine HDN.out.mono ?_); rintro e w1 ⟨rfl, hdz, hfz⟩; have HS1 := Lib.hid (HMV.out w1 _ hdz.out hfz.out); have s3 : w1.cell? ⟨m, 3, none⟩ = some (.slice (some ⟨kb, 0, none⟩) k k) := (blk_cell HS1.out.bm 3).trans rfl; have fk := blk_frozen HS1.out.bk x; have ck : ∃ v, w1.cell? ⟨kb, x, none⟩ = some v := ⟨_, (blk_cell HS1.out.bk x).trans (Array.getElem?_eq_getElem (by rw [HS1.out.sz]; exact HX.out))⟩; obtain ⟨vk, ck⟩ := ck)
            | (go_at_call 221; (with_reducible refine (iterErr_calls hdz.out).mono ?_); rintro e wz ⟨rfl, rfl⟩; have HKP := Lib.hid (show ∀ q, R q → q < wr.heap.size → (w1.setCell ⟨kb, x, none⟩ (.slice none 0 0)).heap[q]? = wr.heap[q]? from fun q hq hlt => (Below.heap_setCell _ _ _ q (HR.out q hq).2.1).trans (hfz.out.block q hlt (fun e => hdz.out.2.2.1 (by rw [← e]; exact hq)))); have HFZ := Lib.hid (((hfz.out.mono (fun q hq => .inr (.inr ⟨x, HX.out, hq⟩))).setCell (p := ⟨kb, x, none⟩) (.inl (.inr (.inl rfl))) (.slice none 0 0) : Fr wr (w1.setCell ⟨kb, x, none⟩ (.slice none 0 0)) (MgF k m kb it))); have HSK2 := Lib.hid (HS1.out.setKey (x := x) (.slice none 0 0)); have HNX := Lib.hid (HSC.out _ _ _ HSK2.out (HSW.out _ (-1) _ (-1) HPN.out HKP.out (.inr rfl) (HKN.out _))))
            | (go_at_call 223; go_loud (refine HNX.out.mono ?_); rintro e w6 ⟨bb, rfl, h1, h2, h3⟩))
          go_ret
          exact ⟨bb, rfl, h1, h2, Lib.hid ((Fr.of_below HB4.out (MgF k m kb it)).then_ (HF.out.then_ (HFZ.out.then_ h3.out (fun q hq => .inl hq)) (fun q hq => .inl hq)) (fun q hq => .inl hq))⟩
end

end Go.Proofs.YtdkkkikcigjlhaaGreatDoor.Md
