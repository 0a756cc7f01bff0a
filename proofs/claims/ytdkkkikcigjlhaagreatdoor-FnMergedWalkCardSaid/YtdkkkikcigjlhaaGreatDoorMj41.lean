/- An iterator that merges iterators: Prev from a pair come to backward. -/
import Derived.Test.YtdkkkikcigjlhaaGreatDoorMj40
set_option linter.unusedVariables false
set_option linter.unusedSimpArgs false
namespace Go.Proofs.YtdkkkikcigjlhaaGreatDoor.Md
open Go.RowKit Go.Proofs.YtdkkkikcigjlhaaGreatDoor.Con Go.Proofs.YtdkkkikcigjlhaaGreatDoor.Run Go.Proofs.YtdkkkikcigjlhaaGreatDoorW.PrintWords Go.Proofs.YtdkkkikcigjlhaaGreatDoorW.PrintMore Go.Proofs.YtdkkkikcigjlhaaGreatDoor.Cmp Go.Sort Go.RwLone Go.Proofs.YtdkkkikcigjlhaaGreatDoor.PFnMemMap

section
variable {V : Value} {f : List Int → List Int → Int} {LL : List (List S44)} {L : List KV} {k : Nat} {Ai : Option Addr} {kc m kb : Nat} {R : Nat → Prop} {it : Nat → Nat} {w w1 : World} {pf : Nat → Int} {ka : Array Value} {i d t : Int} {c x : Nat}

set_option maxHeartbeats 12800000 in
set_option maxRecDepth 100000 in
theorem mgPrev_bw (hV : Cmpr V f) (hM : Mg f LL L) (hn : LL.length = k) (hl : k ≤ 4294967296) (hb : ∀ l ∈ LL, l.length ≤ 4294967296 ∧ ∀ x ∈ l, Byt x.f0) (h : MgS V LL k Ai kc m kb R it w pf ka i 2) (hc : c < L.length) (hF : MgBw f LL L k R w pf ka i c) :
    Calls Tryz.prog 214 #[.pointer (some ⟨m, 0, none⟩)] w fun e w' => MgMv f V LL L k Ai kc m kb R it ((c : Int) - 1) w e w' := by
  obtain ⟨hU, x, rfl, hx, hh⟩ := hF
  obtain ⟨ad, rfl, -, -⟩ := h.itr x hx
  obtain ⟨n, e1, hnl, hcn, hcn1, hoth⟩ := hM.steps hc (by omega) hh
  have hpx : pf x = (n : Int) := (stands (hU x hx).1 hh).trans e1
  have r5 : w.cell? ⟨m, 5, none⟩ = some (.int .i64 2) := (blk_cell h.bm 5).trans rfl
  have r6 : w.cell? ⟨m, 6, none⟩ = some .nilIface := (blk_cell h.bm 6).trans rfl
  have HS := Lib.hid h
  have HU := Lib.hid hU
  have HX := Lib.hid hx
  have HV := Lib.hid hV
  have HE := Lib.hid (And.intro hn (And.intro hl hb))
  have HM := Lib.hid (And.intro hM hc)
  have HPX := Lib.hid hpx
  have HNL := Lib.hid hnl
  have HSW := Lib.hid (show ∀ (W : World) (p : Int) (v : Value) (u : Int), u = (n : Int) - 1 → (∀ q, R q → q < w.heap.size → W.heap[q]? = w.heap[q]?) → StP (LL.getD x []) p u → KyV W R (hdP (LL.getD x []) u) v → KyUp W LL R (ka.setIfInBounds x v) (fun y => if y = x then p else pf y) (tgB f L LL c) k from fun W p v u h0 h1 h2 h3 => by
    have ex : tgB f L LL c x = u := by unfold tgB; rw [hcn, h0]
    exact HU.out.swap h1 HS.out.sz HX.out (fun y hy hne => by unfold tgB; rw [hoth y (by omega) hne]) (by rw [ex]; exact h2) (by rw [ex]; exact h3))
  clear h hU hx hV hn hl hb hM hc hh e1 hnl hcn hcn1 hoth hpx
  have r4 : w.cell? ⟨m, 4, none⟩ = some (.int .i64 (x : Int)) := (blk_cell HS.out.bm 4).trans rfl
  have r1 : w.cell? ⟨m, 1, none⟩ = some (.slice (some ad) k kc) := (blk_cell HS.out.bm 1).trans rfl
  have c0 : w.cell? (ad.add x) = some (dtV (it x)) := by
    obtain ⟨ad2, e2, c0, -⟩ := HS.out.itr x HX.out
    injection e2 with e2
    rw [e2]; exact c0
  have v1 : (x : Int) < (k : Int) := by have := HX.out; omega
  have hmem := mem_at2 HE.out.1 HX.out
  have hdx : DtN V LL m kb R w x (it x) (n : Int) := by rw [← HPX.out]; exact HS.out.dt x HX.out
  have HDN := Lib.hid (dnPrev (HE.out.2.2 _ hmem).1 hdx)
  have n3 : ∀ w, (nilAhead 418 161 (.pointer (some ⟨it x, 0, none⟩)) "Prev").run Tryz.prog w = .ok (some false) w := fun w => by kernel_rfl
  have m3 : ∀ w, (method 418 161 (.pointer (some ⟨it x, 0, none⟩)) "Prev").run Tryz.prog w = .ok (197, .pointer (some ⟨it x, 0, none⟩)) w := fun w => by kernel_rfl
  have q3 : ∀ (args : Array Value) (w : World), (callFunc 197 args).run Tryz.prog w = .ok (.enter 197 args) w := fun args w => Go.MuLone.run_callFunc_enter Tryz.func197 (by kernel_rfl) rfl args w
  have HMV := Lib.hid (show ∀ (w1 : World) (p : Int), DtN V LL m kb R w1 x (it x) p → Fr w w1 (fun q => q = it x) → MgS V LL k (some ad) kc m kb R it w1 (fun y => if y = x then p else pf y) ka (x : Int) 2 from fun w1 p hd hf => HS.out.move HX.out hd hf)
  have HSC := Lib.hid (show ∀ (W : World) (pf3 : Nat → Int) (ka3 : Array Value), MgS V LL k (some ad) kc m kb R it W pf3 ka3 (x : Int) 2 → KyUp W LL R ka3 pf3 (tgB f L LL c) k → Calls Tryz.prog 223 #[.pointer (some ⟨m, 0, none⟩)] W fun e w' => MgMv f V LL L k (some ad) kc m kb R it ((c : Int) - 1) W e w' from fun W pf3 ka3 h1 h2 => scan_bw HV.out HM.out.1 HE.out.1 HE.out.2.1 h1 h2 (Nat.le_of_lt HM.out.2) (fun _ => ⟨x, rfl, HX.out⟩))
  have HR := Lib.hid HS.out.nr
  by_cases h0 : (0 : Int) ≤ (n : Int) - 1
  · obtain ⟨p1, hp1⟩ : ∃ p1, n = p1 + 1 := ⟨n - 1, by omega⟩
    have HP1 := Lib.hid (show (p1 : Int) = (n : Int) - 1 by omega)
    have hnl := HNL.out
    rw [decide_eq_true h0, if_pos h0, ← HP1.out] at HDN
    have hon : onL (kvS (LL.getD x [])) (p1 : Int) = true := on_p (by omega)
    have HYES := Lib.hid (hdP_yes hon)
    have HBY := Lib.hid (keyL_byt (HE.out.2.2 _ hmem).2 (p1 : Int))
    have HKEY := Lib.hid (show ∀ w1, DtN V LL m kb R w1 x (it x) (p1 : Int) → Calls Tryz.prog 194 #[.pointer (some ⟨it x, 0, none⟩)] w1 fun e w' => DyTold V LL m kb R x (it x) (p1 : Int) w1 e w' from fun w1 hd => dnKey HV.out (HE.out.2.2 _ hmem).1 (HE.out.2.2 _ hmem).2 hd hon)
    have n4 : ∀ w, (nilAhead 418 161 (.pointer (some ⟨it x, 0, none⟩)) "Key").run Tryz.prog w = .ok (some false) w := fun w => by kernel_rfl
    have m4 : ∀ w, (method 418 161 (.pointer (some ⟨it x, 0, none⟩)) "Key").run Tryz.prog w = .ok (194, .pointer (some ⟨it x, 0, none⟩)) w := fun w => by kernel_rfl
    have q4 : ∀ (args : Array Value) (w : World), (callFunc 194 args).run Tryz.prog w = .ok (.enter 194 args) w := fun args w => Go.MuLone.run_callFunc_enter Tryz.func194 (by kernel_rfl) rfl args w
    clear h0 hp1 hnl hmem hdx hon
    go_enter Tryz.func214, Tryz.ntmps214
    go_upto_region 27 with ((with_reducible refine HDN.out.mono ?_); rintro e w1 ⟨rfl, hdz, hfz⟩)
    have hdd : DtN V LL m kb R w1.drew x (it x) (p1 : Int) := hdz.out.keep (fun _ _ => rfl) (Nat.le_refl _)
    have hff : Fr w w1.drew (fun q => q = it x) := hfz.out.then_ (Fr.of_below (below_drew (Below.refl _ _)) (fun _ => False)) (fun q e => e.elim)
    have HSD := Lib.hid (HMV.out _ _ hdd hff)
    have HK1 := Lib.hid (HKEY.out _ hdd)
    have HFF := Lib.hid hff
    have s3 : w1.drew.cell? ⟨m, 3, none⟩ = some (.slice (some ⟨kb, 0, none⟩) k k) := (blk_cell HSD.out.bm 3).trans rfl
    clear hdd hff hdz hfz
    go_region_with (first
      | ((with_reducible refine HK1.out.mono ?_); rintro e w2 ⟨a2, c2, rfl, hF2, hd2, hf2⟩; have HS2 := Lib.hid (HMV.out w2 _ hd2.out (HFF.out.then_ hf2.out (fun q hq => .inl hq))); have t3 : w2.cell? ⟨m, 3, none⟩ = some (.slice (some ⟨kb, 0, none⟩) k k) := (blk_cell HS2.out.bm 3).trans rfl; have fk := blk_frozen HS2.out.bk x; have ck : ∃ v, w2.cell? ⟨kb, x, none⟩ = some v := ⟨_, (blk_cell HS2.out.bk x).trans (Array.getElem?_eq_getElem (by rw [HS2.out.sz]; exact HX.out))⟩; obtain ⟨vk, ck⟩ := ck)
      | (go_at_call 220; (with_reducible refine (assert_calls _ _ _ _).mono ?_); rintro e wz ⟨rfl, rfl⟩))
    all_goals (
      rename_i K' hK'
      simp only [Exit.then, Exit.inBlock]
      refine hK' _ _ ?_
      have hfw : Fr w w2 (fun q => q = it x) := HFF.out.then_ hf2.out (fun q hq => .inl hq)
      have HKP := Lib.hid (show ∀ q, R q → q < w.heap.size → (w2.setCell ⟨kb, x, none⟩ (.slice (some a2) (keyL (kvS (LL.getD x [])) (p1 : Int)).length c2)).heap[q]? = w.heap[q]? from fun q hq hlt => (Below.heap_setCell _ _ _ q (HR.out q hq).2.1).trans (hfw.block q hlt (fun e => hd2.out.2.2.1 (by rw [← e]; exact hq))))
      have HKY : Hid (KyV (w2.setCell ⟨kb, x, none⟩ (.slice (some a2) (keyL (kvS (LL.getD x [])) (p1 : Int)).length c2)) R (hdP (LL.getD x []) (p1 : Int)) (.slice (some a2) (keyL (kvS (LL.getD x [])) (p1 : Int)).length c2)) := Lib.hid (by
        rw [HYES.out]
        exact ⟨a2, c2, rfl, Kd.F_step hF2.out (fun q hq _ => Below.heap_setCell _ _ _ q (HR.out q hq).2.1), HBY.out⟩)
      have HFZ := Lib.hid (((hfw.mono (fun q hq => .inr (.inr ⟨x, HX.out, hq⟩))).setCell (p := ⟨kb, x, none⟩) (.inl (.inr (.inl rfl))) (.slice (some a2) (keyL (kvS (LL.getD x [])) (p1 : Int)).length c2) : Fr w (w2.setCell ⟨kb, x, none⟩ (.slice (some a2) (keyL (kvS (LL.getD x [])) (p1 : Int)).length c2)) (MgF k m kb it)))
      have HSK2 := Lib.hid (HS2.out.setKey (x := x) (.slice (some a2) (keyL (kvS (LL.getD x [])) (p1 : Int)).length c2))
      clear hfw
      have HNX := Lib.hid (HSC.out _ _ _ HSK2.out (HSW.out _ (p1 : Int) _ (p1 : Int) HP1.out HKP.out (.inr rfl) HKY.out))
      go_wp2_with (go_at_call 223; go_loud (refine HNX.out.mono ?_); rintro e w6 ⟨bb, rfl, h1, h2, h3⟩)
      go_ret
      exact ⟨bb, rfl, h1, h2, Lib.hid ((HFZ.out.then_ h3.out (fun q hq => .inl hq)))⟩)
  · rw [decide_eq_false h0, if_neg h0] at HDN
    have HPN := Lib.hid (show (-1 : Int) = (n : Int) - 1 by omega)
    have HKN := Lib.hid (show ∀ W : World, KyV W R (hdP (LL.getD x []) (-1 : Int)) (.slice none 0 0) from fun W => by rw [hdP_off (.inl (by omega))]; rfl)
    clear h0 hmem hdx
    go_enter Tryz.func214, Tryz.ntmps214
    go_wp2_with (first
      | ((with_reducible refine HDN.out.mono ?_); rintro e w1 ⟨rfl, hdz, hfz⟩; have HS1 := Lib.hid (HMV.out w1 _ hdz.out hfz.out); have s3 : w1.cell? ⟨m, 3, none⟩ = some (.slice (some ⟨kb, 0, none⟩) k k) := (blk_cell HS1.out.bm 3).trans rfl; have fk := blk_frozen HS1.out.bk x; have ck : ∃ v, w1.cell? ⟨kb, x, none⟩ = some v := ⟨_, (blk_cell HS1.out.bk x).trans (Array.getElem?_eq_getElem (by rw [HS1.out.sz]; exact HX.out))⟩; obtain ⟨vk, ck⟩ := ck)
      | (go_at_call 221; (with_reducible refine (iterErr_calls hdz.out).mono ?_); rintro e wz ⟨rfl, rfl⟩; have HKP := Lib.hid (show ∀ q, R q → q < w.heap.size → (w1.setCell ⟨kb, x, none⟩ (.slice none 0 0)).heap[q]? = w.heap[q]? from fun q hq hlt => (Below.heap_setCell _ _ _ q (HR.out q hq).2.1).trans (hfz.out.block q hlt (fun e => hdz.out.2.2.1 (by rw [← e]; exact hq)))); have HFZ := Lib.hid (((hfz.out.mono (fun q hq => .inr (.inr ⟨x, HX.out, hq⟩))).setCell (p := ⟨kb, x, none⟩) (.inl (.inr (.inl rfl))) (.slice none 0 0) : Fr w (w1.setCell ⟨kb, x, none⟩ (.slice none 0 0)) (MgF k m kb it))); have HSK2 := Lib.hid (HS1.out.setKey (x := x) (.slice none 0 0)); have HNX := Lib.hid (HSC.out _ _ _ HSK2.out (HSW.out _ (-1) _ (-1) HPN.out HKP.out (.inr rfl) (HKN.out _))))
      | (go_at_call 223; go_loud (refine HNX.out.mono ?_); rintro e w6 ⟨bb, rfl, h1, h2, h3⟩))
    go_ret
    exact ⟨bb, rfl, h1, h2, Lib.hid ((HFZ.out.then_ h3.out (fun q hq => .inl hq)))⟩
end

end Go.Proofs.YtdkkkikcigjlhaaGreatDoor.Md
