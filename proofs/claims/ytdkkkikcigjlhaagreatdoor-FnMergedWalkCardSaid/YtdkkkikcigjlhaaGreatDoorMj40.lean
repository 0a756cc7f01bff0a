/- An iterator that merges iterators: Next at the ends; what Next leaves of the keys. An iterator that merges iterators: the scans as moves; Next from a pair that was come to forward. An iterator that merges iterators: Next from a pair come to backward; Next, whole. An iterator that merges iterators: Prev. -/
import Derived.Test.YtdkkkikcigjlhaaGreatDoorMj39
set_option linter.unusedVariables false
set_option linter.unusedSimpArgs false
namespace Go.Proofs.YtdkkkikcigjlhaaGreatDoor.Md
open Go.RowKit Go.Proofs.YtdkkkikcigjlhaaGreatDoor.Con Go.Proofs.YtdkkkikcigjlhaaGreatDoor.Run Go.Proofs.YtdkkkikcigjlhaaGreatDoorW.PrintWords Go.Proofs.YtdkkkikcigjlhaaGreatDoorW.PrintMore Go.Proofs.YtdkkkikcigjlhaaGreatDoor.Cmp Go.Sort Go.RwLone Go.Proofs.YtdkkkikcigjlhaaGreatDoor.PFnMemMap

section
variable {V : Value} {f : List Int → List Int → Int} {LL : List (List S44)} {L : List KV} {k : Nat} {Ai : Option Addr} {kc m kb : Nat} {R : Nat → Prop} {it : Nat → Nat} {w w1 : World} {pf : Nat → Int} {ka : Array Value} {i d t : Int} {c x : Nat}

theorem KyUp.swap {t1 t2 : Nat → Int} {p : Int} {v : Value} (h : KyUp w LL R ka pf t1 k) (hk : ∀ q, R q → q < w.heap.size → w1.heap[q]? = w.heap[q]?) (hs : ka.size = k) (hx : x < k) (he : ∀ y, y < k → y ≠ x → t2 y = t1 y) (hp : StP (LL.getD x []) p (t2 x)) (hv : KyV w1 R (hdP (LL.getD x []) (t2 x)) v) : KyUp w1 LL R (ka.setIfInBounds x v) (fun y => if y = x then p else pf y) t2 k := by
  intro y hy
  by_cases e : y = x
  · subst e
    refine ⟨?_, v, by rw [Array.getElem?_setIfInBounds_self_of_lt (by omega)], hv⟩
    show StP _ (if y = y then p else pf y) _
    rw [if_pos rfl]; exact hp
  · obtain ⟨h1, v2, h2, h3⟩ := h y hy
    rw [he y hy e]
    refine ⟨?_, v2, by rw [Array.getElem?_setIfInBounds_ne (fun q => e q.symm)]; exact h2, h3.step hk⟩
    show StP _ (if y = x then p else pf y) _
    rw [if_neg e]; exact h1

theorem Mg.steps (h : Mg f LL L) (hc : c < L.length) (hx : x < LL.length) {p : Int} (hh : hdP (LL.getD x []) p = some (gK L c).1) : ∃ n : Nat, p = (n : Int) ∧ n < (LL.getD x []).length ∧ cntG f L (LL.getD x []) c = n ∧ cntG f L (LL.getD x []) (c + 1) = n + 1 ∧ ∀ y, y < LL.length → y ≠ x → cntG f L (LL.getD y []) (c + 1) = cntG f L (LL.getD y []) c := by
  obtain ⟨n, rfl, hn, hk⟩ := hdP_some hh
  obtain ⟨x1, hx1, h1, h2, h3, h4⟩ := h.who hc
  have hl : n < (kvS (LL.getD x [])).length := by rw [kvS_len]; exact hn
  have hl1 : cntG f L (LL.getD x1 []) c < (kvS (LL.getD x1 [])).length := by rw [kvS_len]; exact h1
  have e : x = x1 := h.one x x1 _ _ hx hx1 (gK_mem hl) (gK_mem hl1) (by rw [h2, ← hk])
  subst e
  have hee : gK (kvS (LL.getD x [])) n = gK (kvS (LL.getD x [])) (cntG f L (LL.getD x []) c) := by
    rw [h2]
    exact h.pair ((h.mem _).2 ⟨x, hx, gK_mem hl⟩) (gK_mem hc) hk.symm
  have hcn : cntG f L (LL.getD x []) c = n := by
    have h0 := (h.ord.zero (gK (kvS (LL.getD x [])) n).1 (gK (kvS (LL.getD x [])) (cntG f L (LL.getD x []) c)).1).2 (by rw [hee])
    rcases Nat.lt_trichotomy (cntG f L (LL.getD x []) c) n with q | q | q
    · have := up_at (h.ups x hx) q hl
      have := h.ord.swap (gK (kvS (LL.getD x [])) n).1 (gK (kvS (LL.getD x [])) (cntG f L (LL.getD x []) c)).1
      omega
    · exact q
    · have := up_at (h.ups x hx) q hl1
      omega
  exact ⟨n, rfl, hn, hcn, by rw [h3, hcn], h4⟩

set_option maxHeartbeats 3200000 in
theorem mgNext_eoi (h : MgS V LL k Ai kc m kb R it w pf ka i 1) :
    Calls Tryz.prog 213 #[.pointer (some ⟨m, 0, none⟩)] w fun e w' => e = .returned (.bool false) ∧ w = w' := by
  have r5 : w.cell? ⟨m, 5, none⟩ = some (.int .i64 1) := (blk_cell h.bm 5).trans rfl
  clear h
  go_enter Tryz.func213, Tryz.ntmps213
  go_wp2
  go_ret
  exact ⟨rfl, rfl⟩

set_option maxHeartbeats 3200000 in
theorem mgNext_soi (hV : Cmpr V f) (hM : Mg f LL L) (hn : LL.length = k) (hl : k ≤ 4294967296) (hb : ∀ l ∈ LL, l.length ≤ 4294967296 ∧ ∀ x ∈ l, Byt x.f0) (h : MgS V LL k Ai kc m kb R it w pf ka i 0) :
    Calls Tryz.prog 213 #[.pointer (some ⟨m, 0, none⟩)] w fun e w' => MgMv f V LL L k Ai kc m kb R it 0 w e w' := by
  have r5 : w.cell? ⟨m, 5, none⟩ = some (.int .i64 0) := (blk_cell h.bm 5).trans rfl
  have r6 : w.cell? ⟨m, 6, none⟩ = some .nilIface := (blk_cell h.bm 6).trans rfl
  have HF := Lib.hid (mgFirst_mv hV hM hn hl hb (show MgPl f V LL L k Ai kc m kb R it w (-1) from ⟨pf, ka, i, 0, h, .inr (.inr (.inl ⟨rfl, rfl⟩))⟩))
  clear h hV hM hn hb
  go_enter Tryz.func213, Tryz.ntmps213
  go_wp2_with ((with_reducible refine HF.out.mono ?_); rintro e w1 ⟨bb, rfl, h1, h2, h3⟩)
  go_ret
  exact ⟨bb, rfl, h1, h2, h3⟩
end

end Go.Proofs.YtdkkkikcigjlhaaGreatDoor.Md

namespace Go.Proofs.YtdkkkikcigjlhaaGreatDoor.Md
open Go.RowKit Go.Proofs.YtdkkkikcigjlhaaGreatDoor.Con Go.Proofs.YtdkkkikcigjlhaaGreatDoor.Run Go.Proofs.YtdkkkikcigjlhaaGreatDoorW.PrintWords Go.Proofs.YtdkkkikcigjlhaaGreatDoorW.PrintMore Go.Proofs.YtdkkkikcigjlhaaGreatDoor.Cmp Go.Sort Go.RwLone Go.Proofs.YtdkkkikcigjlhaaGreatDoor.PFnMemMap

section
variable {V : Value} {f : List Int → List Int → Int} {LL : List (List S44)} {L : List KV} {k : Nat} {Ai : Option Addr} {kc m kb : Nat} {R : Nat → Prop} {it : Nat → Nat} {w w1 : World} {pf : Nat → Int} {ka : Array Value} {i d t : Int} {c x : Nat}

theorem scan_fw (hV : Cmpr V f) (hM : Mg f LL L) (hn : LL.length = k) (hl : k ≤ 4294967296) (h : MgS V LL k Ai kc m kb R it w pf ka i d) (hU : KyUp w LL R ka pf (tgF f L LL c) k) (hc : c ≤ L.length) (hi : d = 3 → ∃ n : Nat, i = (n : Int) ∧ n < k) :
    Calls Tryz.prog 222 #[.pointer (some ⟨m, 0, none⟩)] w fun e w' => MgMv f V LL L k Ai kc m kb R it (c : Int) w e w' := by
  refine (mgNext_scan (hd := fun y => hdP (LL.getD y []) (tgF f L LL c y)) hV h.bm h.bk h.ne (fun q hq => (h.nr q hq).1) ⟨h.sz, fun y hy => (hU y hy).2⟩ hi hl).mono ?_
  rintro e w6 ⟨bb, i6, rfl, hm6, hf6, hb6⟩
  refine mg_fw (tgt := tgF f L LL c) hM hn (fun _ _ => rfl) hc ⟨bb, pf, ka, i6, rfl, Lib.hid (h.setDir hf6.out hm6.out), Lib.hid (hf6.out.mono (fun q hq => .inl hq)), Lib.hid (fun y hy => ⟨(hU y hy).1, ?_⟩), hb6⟩
  obtain ⟨v, h1, h2⟩ := (hU y hy).2
  exact ⟨v, h1, h2.step (fun q hq hl => hf6.out.block q hl (h.nr q hq).1)⟩
theorem scan_bw (hV : Cmpr V f) (hM : Mg f LL L) (hn : LL.length = k) (hl : k ≤ 4294967296) (h : MgS V LL k Ai kc m kb R it w pf ka i d) (hU : KyUp w LL R ka pf (tgB f L LL c) k) (hc : c ≤ L.length) (hi : d = 2 → ∃ n : Nat, i = (n : Int) ∧ n < k) :
    Calls Tryz.prog 223 #[.pointer (some ⟨m, 0, none⟩)] w fun e w' => MgMv f V LL L k Ai kc m kb R it ((c : Int) - 1) w e w' := by
  refine (mgPrev_scan (hd := fun y => hdP (LL.getD y []) (tgB f L LL c y)) hV h.bm h.bk h.ne (fun q hq => (h.nr q hq).1) ⟨h.sz, fun y hy => (hU y hy).2⟩ hi hl).mono ?_
  rintro e w6 ⟨bb, i6, rfl, hm6, hf6, hb6⟩
  refine mg_bw (tgt := tgB f L LL c) hM hn (fun _ _ => rfl) hc ⟨bb, pf, ka, i6, rfl, Lib.hid (h.setDir hf6.out hm6.out), Lib.hid (hf6.out.mono (fun q hq => .inl hq)), Lib.hid (fun y hy => ⟨(hU y hy).1, ?_⟩), hb6⟩
  obtain ⟨v, h1, h2⟩ := (hU y hy).2
  exact ⟨v, h1, h2.step (fun q hq hl => hf6.out.block q hl (h.nr q hq).1)⟩

set_option maxHeartbeats 12800000 in
set_option maxRecDepth 100000 in
theorem mgNext_fw (hV : Cmpr V f) (hM : Mg f LL L) (hn : LL.length = k) (hl : k ≤ 4294967296) (hb : ∀ l ∈ LL, l.length ≤ 4294967296 ∧ ∀ x ∈ l, Byt x.f0) (h : MgS V LL k Ai kc m kb R it w pf ka i 3) (hc : c < L.length) (hF : MgFw f LL L k R w pf ka i c) :
    Calls Tryz.prog 213 #[.pointer (some ⟨m, 0, none⟩)] w fun e w' => MgMv f V LL L k Ai kc m kb R it ((c + 1 : Nat) : Int) w e w' := by
  obtain ⟨hU, x, rfl, hx, hh⟩ := hF
  obtain ⟨n, e1, hnl, hcn, hcn1, hoth⟩ := hM.steps hc (by omega) hh
  obtain ⟨n1, hn1⟩ : ∃ n1, n + 1 = n1 := ⟨_, rfl⟩
  have hpx : pf x = (n : Int) := (stands (hU x hx).1 hh).trans e1
  have hdx : DtN V LL m kb R w x (it x) (n : Int) := by rw [← hpx]; exact h.dt x hx
  have hmem := mem_at2 hn hx
  have r5 : w.cell? ⟨m, 5, none⟩ = some (.int .i64 3) := (blk_cell h.bm 5).trans rfl
  have r6 : w.cell? ⟨m, 6, none⟩ = some .nilIface := (blk_cell h.bm 6).trans rfl
  have r4 : w.cell? ⟨m, 4, none⟩ = some (.int .i64 (x : Int)) := (blk_cell h.bm 4).trans rfl
  have r1 : w.cell? ⟨m, 1, none⟩ = some (.slice Ai k kc) := (blk_cell h.bm 1).trans rfl
  obtain ⟨ad, rfl, c0, -⟩ := h.itr x hx
  have v1 : (x : Int) < (k : Int) := by omega
  have HDN := Lib.hid (dnNext hV (hb _ hmem).1 (hb _ hmem).2 hdx)
  have n3 : ∀ w, (nilAhead 418 161 (.pointer (some ⟨it x, 0, none⟩)) "Next").run Tryz.prog w = .ok (some false) w := fun w => by kernel_rfl
  have m3 : ∀ w, (method 418 161 (.pointer (some ⟨it x, 0, none⟩)) "Next").run Tryz.prog w = .ok (196, .pointer (some ⟨it x, 0, none⟩)) w := fun w => by kernel_rfl
  have q3 : ∀ (args : Array Value) (w : World), (callFunc 196 args).run Tryz.prog w = .ok (.enter 196 args) w := fun args w => Go.MuLone.run_callFunc_enter Tryz.func196 (by kernel_rfl) rfl args w
  have HMV := Lib.hid (show ∀ (w1 : World) (p : Int), DtN V LL m kb R w1 x (it x) p → Fr w w1 (fun q => q = it x) → MgS V LL k (some ad) kc m kb R it w1 (fun y => if y = x then p else pf y) ka (x : Int) 3 from fun w1 p hd hf => h.move hx hd hf)
  have HSW := Lib.hid (show ∀ (W : World) (p : Int) (v : Value), (∀ q, R q → q < w.heap.size → W.heap[q]? = w.heap[q]?) → p = (n1 : Int) → KyV W R (hdP (LL.getD x []) (n1 : Int)) v → KyUp W LL R (ka.setIfInBounds x v) (fun y => if y = x then p else pf y) (tgF f L LL (c + 1)) k from fun W p v h1 h2 h3 => by
    have ex : tgF f L LL (c + 1) x = (n1 : Int) := by unfold tgF; rw [hcn1, hn1]
    exact hU.swap h1 h.sz hx (fun y hy hne => by unfold tgF; rw [hoth y (by omega) hne]) (.inr (by rw [ex]; exact h2)) (by rw [ex]; exact h3))
  have HSC := Lib.hid (show ∀ (W : World) (pf2 : Nat → Int) (ka2 : Array Value), MgS V LL k (some ad) kc m kb R it W pf2 ka2 (x : Int) 3 → KyUp W LL R ka2 pf2 (tgF f L LL (c + 1)) k → Calls Tryz.prog 222 #[.pointer (some ⟨m, 0, none⟩)] W fun e w' => MgMv f V LL L k (some ad) kc m kb R it ((c + 1 : Nat) : Int) W e w' from fun W pf2 ka2 h1 h2 => scan_fw hV hM hn hl h1 h2 (by omega) (fun _ => ⟨x, rfl, hx⟩))
  have HR := Lib.hid h.nr
  have HX := Lib.hid (And.intro hx h.sz)
  by_cases h0 : (n : Int) + 1 < ((LL.getD x []).length : Int)
  · rw [decide_eq_true h0, if_pos h0, show (n : Int) + 1 = (n1 : Int) by omega] at HDN
    have hon : onL (kvS (LL.getD x [])) (n1 : Int) = true := by
      unfold onL
      rw [kvS_len, decide_eq_true (p := (0 : Int) ≤ (n1 : Int)) (by omega), decide_eq_true (p := (n1 : Int) < ((LL.getD x []).length : Int)) (by omega)]
      rfl
    have HYES : Hid (hdP (LL.getD x []) (n1 : Int) = some (keyL (kvS (LL.getD x [])) (n1 : Int))) := Lib.hid (by unfold hdP; rw [if_pos hon])
    have HBY := Lib.hid (keyL_byt (hb _ hmem).2 (n1 : Int))
    have HKEY := Lib.hid (show ∀ w1, DtN V LL m kb R w1 x (it x) (n1 : Int) → Calls Tryz.prog 194 #[.pointer (some ⟨it x, 0, none⟩)] w1 fun e w' => DyTold V LL m kb R x (it x) (n1 : Int) w1 e w' from fun w1 hd => dnKey hV (hb _ hmem).1 (hb _ hmem).2 hd hon)
    have n4 : ∀ w, (nilAhead 418 161 (.pointer (some ⟨it x, 0, none⟩)) "Key").run Tryz.prog w = .ok (some false) w := fun w => by kernel_rfl
    have m4 : ∀ w, (method 418 161 (.pointer (some ⟨it x, 0, none⟩)) "Key").run Tryz.prog w = .ok (194, .pointer (some ⟨it x, 0, none⟩)) w := fun w => by kernel_rfl
    have q4 : ∀ (args : Array Value) (w : World), (callFunc 194 args).run Tryz.prog w = .ok (.enter 194 args) w := fun args w => Go.MuLone.run_callFunc_enter Tryz.func194 (by kernel_rfl) rfl args w
    clear h0 hU hx hh e1 hnl hcn hcn1 hoth hpx hdx hmem h hV hM hn hb hc hon
    go_enter Tryz.func213, Tryz.ntmps213
    go_upto_region 18 with ((with_reducible refine HDN.out.mono ?_); rintro e w1 ⟨rfl, hd1, hf1⟩)
    have hdd : DtN V LL m kb R w1.drew x (it x) (n1 : Int) := hd1.out.keep (fun _ _ => rfl) (Nat.le_refl _)
    have hff : Fr w w1.drew (fun q => q = it x) := hf1.out.then_ (Fr.of_below (below_drew (Below.refl _ _)) (fun _ => False)) (fun q e => e.elim)
    have HSD := Lib.hid (HMV.out _ _ hdd hff)
    have HK1 := Lib.hid (HKEY.out _ hdd)
    have HFF := Lib.hid hff
    have s3 : w1.drew.cell? ⟨m, 3, none⟩ = some (.slice (some ⟨kb, 0, none⟩) k k) := (blk_cell HSD.out.bm 3).trans rfl
    clear hdd hff hd1 hf1
    go_region_with (first
      | ((with_reducible refine HK1.out.mono ?_); rintro e w2 ⟨a2, c2, rfl, hF2, hd2, hf2⟩; have HS2 := Lib.hid (HMV.out w2 _ hd2.out (HFF.out.then_ hf2.out (fun q hq => .inl hq))); have t3 : w2.cell? ⟨m, 3, none⟩ = some (.slice (some ⟨kb, 0, none⟩) k k) := (blk_cell HS2.out.bm 3).trans rfl; have fk := blk_frozen HS2.out.bk x; have ck : ∃ v, w2.cell? ⟨kb, x, none⟩ = some v := ⟨_, (blk_cell HS2.out.bk x).trans (Array.getElem?_eq_getElem (by rw [HS2.out.sz]; exact HX.out.1))⟩; obtain ⟨vk, ck⟩ := ck)
      | (go_at_call 220; (with_reducible refine (assert_calls _ _ _ _).mono ?_); rintro e wz ⟨rfl, rfl⟩))
    all_goals (
      rename_i K' hK'
      simp only [Exit.then, Exit.inBlock]
      refine hK' _ _ ?_
      have hfw : Fr w w2 (fun q => q = it x) := HFF.out.then_ hf2.out (fun q hq => .inl hq)
      have hkeep : ∀ q, R q → q < w.heap.size → (w2.setCell ⟨kb, x, none⟩ (.slice (some a2) (keyL (kvS (LL.getD x [])) (n1 : Int)).length c2)).heap[q]? = w.heap[q]? := fun q hq hlt => (Below.heap_setCell _ _ _ q (HR.out q hq).2.1).trans (hfw.block q hlt (fun e => hd2.out.2.2.1 (by rw [← e]; exact hq)))
      have hky : KyV (w2.setCell ⟨kb, x, none⟩ (.slice (some a2) (keyL (kvS (LL.getD x [])) (n1 : Int)).length c2)) R (hdP (LL.getD x []) (n1 : Int)) (.slice (some a2) (keyL (kvS (LL.getD x [])) (n1 : Int)).length c2) := by
        rw [HYES.out]
        exact ⟨a2, c2, rfl, Kd.F_step hF2.out (fun q hq _ => Below.heap_setCell _ _ _ q (HR.out q hq).2.1), HBY.out⟩
      have HNX := Lib.hid (HSC.out _ _ _ (HS2.out.setKey (x := x) _) (HSW.out _ _ _ hkeep rfl hky))
      have hff := (((hfw.mono (fun q hq => .inr (.inr ⟨x, HX.out.1, hq⟩))).setCell (p := ⟨kb, x, none⟩) (.inl (.inr (.inl rfl))) (.slice (some a2) (keyL (kvS (LL.getD x [])) (n1 : Int)).length c2) : Fr w (w2.setCell ⟨kb, x, none⟩ (.slice (some a2) (keyL (kvS (LL.getD x [])) (n1 : Int)).length c2)) (MgF k m kb it)))
      have HFZ := Lib.hid hff
      clear hff hkeep hky hfw
      go_wp2_with (go_at_call 222; go_loud (refine HNX.out.mono ?_); rintro e w6 ⟨bb, rfl, h1, h2, h3⟩)
      go_ret
      exact ⟨bb, rfl, h1, h2, Lib.hid (HFZ.out.then_ h3.out (fun q hq => .inl hq))⟩)
  · rw [decide_eq_false h0, if_neg h0] at HDN
    have HLN := Lib.hid (show ((LL.getD x []).length : Int) = (n1 : Int) by omega)
    have HNO := Lib.hid (hdP_off (l := LL.getD x []) (p := (n1 : Int)) (.inr (by omega)))
    have HKY := Lib.hid (show ∀ W : World, KyV W R (hdP (LL.getD x []) (n1 : Int)) (.slice none 0 0) from fun W => by rw [HNO.out]; rfl)
    clear h0 hU hx hh e1 hnl hcn hcn1 hoth hpx hdx hmem h hV hM hn hb hc
    go_enter Tryz.func213, Tryz.ntmps213
    go_wp2_with (first
      | ((with_reducible refine HDN.out.mono ?_); rintro e w1 ⟨rfl, hd1, hf1⟩; have HS1 := Lib.hid (HMV.out w1 _ hd1.out hf1.out); have s3 : w1.cell? ⟨m, 3, none⟩ = some (.slice (some ⟨kb, 0, none⟩) k k) := (blk_cell HS1.out.bm 3).trans rfl; have fk := blk_frozen HS1.out.bk x; have ck : ∃ v, w1.cell? ⟨kb, x, none⟩ = some v := ⟨_, (blk_cell HS1.out.bk x).trans (Array.getElem?_eq_getElem (by rw [HS1.out.sz]; exact HX.out.1))⟩; obtain ⟨vk, ck⟩ := ck)
      | (go_at_call 221; (with_reducible refine (iterErr_calls hd1.out).mono ?_); rintro e wz ⟨rfl, rfl⟩)
      | (go_at_call 222; have hkeep : ∀ q, R q → q < w.heap.size → (w1.setCell ⟨kb, x, none⟩ (.slice none 0 0)).heap[q]? = w.heap[q]? := (fun q hq hlt => (Below.heap_setCell _ _ _ q (HR.out q hq).2.1).trans (hf1.out.block q hlt (fun e => hd1.out.2.2.1 (by rw [← e]; exact hq)))); (with_reducible refine (HSC.out _ _ _ (HS1.out.setKey (x := x) (.slice none 0 0)) (HSW.out _ _ _ hkeep HLN.out (HKY.out _))).mono ?_); rintro e w6 ⟨bb, rfl, h1, h2, h3⟩))
    go_ret
    have hff := (((hf1.out.mono (fun q hq => .inr (.inr ⟨x, HX.out.1, hq⟩))).setCell (p := ⟨kb, x, none⟩) (.inl (.inr (.inl rfl))) (.slice none 0 0) : Fr w (w1.setCell ⟨kb, x, none⟩ (.slice none 0 0)) (MgF k m kb it)))
    exact ⟨bb, rfl, h1, h2, Lib.hid (hff.then_ h3.out (fun q hq => .inl hq))⟩
end

end Go.Proofs.YtdkkkikcigjlhaaGreatDoor.Md

namespace Go.Proofs.YtdkkkikcigjlhaaGreatDoor.Md
open Go.RowKit Go.Proofs.YtdkkkikcigjlhaaGreatDoor.Con Go.Proofs.YtdkkkikcigjlhaaGreatDoor.Run Go.Proofs.YtdkkkikcigjlhaaGreatDoorW.PrintWords Go.Proofs.YtdkkkikcigjlhaaGreatDoorW.PrintMore Go.Proofs.YtdkkkikcigjlhaaGreatDoor.Cmp Go.Sort Go.RwLone Go.Proofs.YtdkkkikcigjlhaaGreatDoor.PFnMemMap

section
variable {V : Value} {f : List Int → List Int → Int} {LL : List (List S44)} {L : List KV} {k : Nat} {Ai : Option Addr} {kc m kb : Nat} {R : Nat → Prop} {it : Nat → Nat} {w w1 : World} {pf : Nat → Int} {ka : Array Value} {i d t : Int} {c x : Nat}

def MgGo (f : List Int → List Int → Int) (V : Value) (LL : List (List S44)) (L : List KV) (k : Nat) (Ai : Option Addr) (kc m kb : Nat) (R : Nat → Prop) (it : Nat → Nat) (c : Nat) (w : World) (e : Ending) (w' : World) : Prop :=
  ∃ pf ka i, e = .returned (.bool true) ∧ Hid (MgS V LL k Ai kc m kb R it w' pf ka i 3) ∧ Hid (MgFw f LL L k R w' pf ka i c) ∧ Hid (Fr w w' (MgF k m kb it))

theorem mg_fw3 (hM : Mg f LL L) (hn : LL.length = k) {tgt : Nat → Int} (he : ∀ y, y < k → tgt y = tgF f L LL c y) (hc : c < L.length) {e : Ending} {w' : World}
    (h : MgTold f V LL k Ai kc m kb R it tgt (fun hd i o => Least f hd k k i o) 3 1 w e w') : MgGo f V LL L k Ai kc m kb R it c w e w' := by
  obtain ⟨bb, pf, ka, i, rfl, hS, hF, hU, hB⟩ := h
  have hU2 := hU.out.congr he
  have hcg : ∀ y, y < k → hdP (LL.getD y []) (tgt y) = hdP (LL.getD y []) (tgF f L LL c y) := fun y hy => by rw [he y hy]
  cases bb with
  | true =>
    obtain ⟨key, hK⟩ := hB.out
    have h2 := least_at hM hn (c := c) (least_congr hK hcg)
    obtain ⟨x, h3, h4, h5, h6⟩ := h2.1 hc
    exact ⟨pf, ka, i, rfl, hS, Lib.hid ⟨hU2, x, h3, h4, h6⟩, hF⟩
  | false =>
    have h2 := least_at hM hn (c := c) (least_congr (i := i) (o := none) (show Least f (fun y => hdP (LL.getD y []) (tgt y)) k k i none from hB.out) hcg)
    obtain ⟨x, h3, h4, h5, h6⟩ := h2.1 hc
    cases h5

theorem find_self (hM : Mg f LL L) (hc : c < L.length) : findL f (gK L c).1 L = c := by
  refine findL_is hM.ord hM.up (Nat.le_of_lt hc) (fun j hj => up_at hM.up hj hc) (fun j hj1 hj2 => ?_)
  rw [up_less hM.ord hM.up hj2 hc]
  omega

theorem MgS.top (h : MgS V LL k Ai kc m kb R it w pf ka i d) : ∀ b, MgF k m kb it b ∨ R b → b < w.heap.size := by
  rintro b ((rfl | rfl | ⟨y, hy, rfl⟩) | hb)
  · exact blk_lt h.bm
  · exact blk_lt h.bk
  · obtain ⟨-, -, -, _, _, _, _, _, h4, -, -⟩ := h.dt y hy
    exact blk_lt h4.blk
  · exact (h.nr b hb).2.2
theorem MgS.below (h : MgS V LL k Ai kc m kb R it w pf ka i d) (hb : Below w.heap.size w w1) : MgS V LL k Ai kc m kb R it w1 pf ka i d := h.keep (fun b hb2 => hb.block b (h.top b hb2)) hb.size
theorem KyUp.below (hS : MgS V LL k Ai kc m kb R it w pf ka i d) {tgt : Nat → Int} {j : Nat} (h : KyUp w LL R ka pf tgt j) (hb : Below w.heap.size w w1) : KyUp w1 LL R ka pf tgt j := h.keep (fun b hb2 => hb.block b (hS.top b (.inr hb2)))

set_option maxHeartbeats 12800000 in
set_option maxRecDepth 100000 in
theorem mgNext_bw (hV : Cmpr V f) (hM : Mg f LL L) (hn : LL.length = k) (hl : k ≤ 4294967296) (hb : ∀ l ∈ LL, l.length ≤ 4294967296 ∧ ∀ x ∈ l, Byt x.f0) (hq : ∀ a ∈ L, a.1.length ≤ 4294967296) (h : MgS V LL k Ai kc m kb R it w pf ka i 2) (hc : c < L.length) (hF : MgBw f LL L k R w pf ka i c) :
    Calls Tryz.prog 213 #[.pointer (some ⟨m, 0, none⟩)] w fun e w' => MgMv f V LL L k Ai kc m kb R it ((c + 1 : Nat) : Int) w e w' := by
  obtain ⟨hU, x, rfl, hx, hh⟩ := hF
  obtain ⟨v, hv, hkv⟩ := (hU x hx).2
  rw [hh] at hkv
  obtain ⟨a, cc, rfl, hK, hby⟩ := hkv
  have hlen := hq _ (gK_mem hc)
  have HSK := Lib.hid (show ∀ (W : World) (A4 : Option Addr) (c4 : Nat), Below w.heap.size w W → Kd.C (Kd.int .u8) W A4 (gK L c).1.length (gK L c).1 → (∀ a, A4 = some a → w.heap.size ≤ a.block) → Calls Tryz.prog 216 #[.pointer (some ⟨m, 0, none⟩), .slice A4 (gK L c).1.length c4] W fun e w' => MgGo f V LL L k Ai kc m kb R it c W e w' from fun W A4 c4 hB hC hne => by
    refine (mgSeek_calls hV hn hl hb hC hby (fun _ a ha hin => ?_) (h.below hB) (by decide)).mono ?_
    · have h1 := hne a ha
      have h2 := h.top a.block (.inl hin)
      omega
    · intro e w' h3
      exact mg_fw3 (c := c) hM hn (fun y hy => by unfold tgF; rw [hM.seek (by omega), find_self hM hc]) hc h3)
  have HNX := Lib.hid (show ∀ (W : World) (pf2 : Nat → Int) (ka2 : Array Value) (i2 : Int), MgS V LL k Ai kc m kb R it W pf2 ka2 i2 3 → MgFw f LL L k R W pf2 ka2 i2 c → Calls Tryz.prog 213 #[.pointer (some ⟨m, 0, none⟩)] W fun e w' => MgMv f V LL L k Ai kc m kb R it ((c + 1 : Nat) : Int) W e w' from fun W pf2 ka2 i2 h1 h2 => mgNext_fw hV hM hn hl hb h1 hc h2)
  have r5 : w.cell? ⟨m, 5, none⟩ = some (.int .i64 2) := (blk_cell h.bm 5).trans rfl
  have r6 : w.cell? ⟨m, 6, none⟩ = some .nilIface := (blk_cell h.bm 6).trans rfl
  have hq1 := below_alloc (Below.refl w.heap.size w) (.cells #[] 5)
  have hm2 := (hq1.block m (blk_lt h.bm)).trans h.bm
  have hk2 := (hq1.block kb (blk_lt h.bk)).trans h.bk
  have l0 : w.drew.cell? ⟨m, 3, none⟩ = some (.slice (some ⟨kb, 0, none⟩) k k) := (blk_cell h.bm 3).trans rfl
  have l1 : w.drew.cell? ⟨m, 4, none⟩ = some (.int .i64 (x : Int)) := (blk_cell h.bm 4).trans rfl
  have l2 : w.drew.cell? ⟨kb, x, none⟩ = some (.slice (some a) (gK L c).1.length cc) := (blk_cell h.bk x).trans hv
  have l3 : (w.alloc (.cells #[] 5)).drew.cell? ⟨m, 3, none⟩ = some (.slice (some ⟨kb, 0, none⟩) k k) := (blk_cell hm2 3).trans rfl
  have l4 : (w.alloc (.cells #[] 5)).drew.cell? ⟨m, 4, none⟩ = some (.int .i64 (x : Int)) := (blk_cell hm2 4).trans rfl
  have l5 : (w.alloc (.cells #[] 5)).drew.cell? ⟨kb, x, none⟩ = some (.slice (some a) (gK L c).1.length cc) := (blk_cell hk2 x).trans hv
  have E1 : Hid ((w.alloc (.cells #[] 5)).drew.heap[w.heap.size]? = some (.cells #[] 5 (0, 0))) := blk_new w _
  have B1 : Hid (Below w.heap.size w (w.alloc (.cells #[] 5)).drew) := Lib.hid hq1.drew
  have v1 : (x : Int) < (k : Int) := by omega
  have HKC := Lib.hid (And.intro (Kd.F_now hK) hlen)
  clear hU hx hh hv hby hlen h hV hM hn hb hc hq hq1 hm2 hk2 hK
  go_enter Tryz.func213, Tryz.ntmps213
  go_upto_region 10 with (fail)
  generalize gK L c = g at *
  go_region_law (refine copyM_step rfl (.tmp 37) (.tmp 47) 25 5 rfl Tryz.underlying25 info_u8 g.1 _ _ _ rfl rfl (by exact E1.out) (Nat.le_refl _) HKC.out.1 (by exact B1.out) HKC.out.2 ?_; intro A4 c4 w4 ho4 hb4 hg4 hat4)
  all_goals (
    rename_i K' hK'
    simp only [Exit.then, Exit.inBlock]
    refine hK' _ _ ?_
    have HCC := Lib.hid (Kd.F_now (own_F (ok := fun q => w.heap.size ≤ q ∧ q < w4.heap.size) ho4 (fun q hq => ⟨own_base ho4 q hq, own_lt ho4 q hq⟩)))
    have HNE := Lib.hid (show ∀ ad, A4 = some ad → w.heap.size ≤ ad.block from fun ad had => own_base ho4 ad.block (by rw [had]; rfl))
    have HB4 := Lib.hid hb4
    clear ho4 hb4 hg4 hat4
    go_wp2_with (first
      | (go_at_call 216; (with_reducible refine (HSK.out _ _ _ HB4.out HCC.out HNE.out).mono ?_); rintro e w5 ⟨pf5, ka5, i5, rfl, hs5, hf5, hr5⟩)
      | (go_at_call 213; (with_reducible refine (HNX.out _ _ _ _ hs5.out hf5.out).mono ?_); rintro e w6 ⟨bb, rfl, h1, h2, h3⟩))
    go_ret
    exact ⟨bb, rfl, h1, h2, Lib.hid ((Fr.of_below HB4.out (MgF k m kb it)).then_ (hr5.out.then_ h3.out (fun q hq => .inl hq)) (fun q hq => .inl hq))⟩)

theorem mgNext_calls (hV : Cmpr V f) (hM : Mg f LL L) (hn : LL.length = k) (hl : k ≤ 4294967296) (hb : ∀ l ∈ LL, l.length ≤ 4294967296 ∧ ∀ x ∈ l, Byt x.f0) (hq : ∀ a ∈ L, a.1.length ≤ 4294967296) (h : MgPl f V LL L k Ai kc m kb R it w t) :
    Calls Tryz.prog 213 #[.pointer (some ⟨m, 0, none⟩)] w fun e w' => MgMv f V LL L k Ai kc m kb R it (mvL f L t 2 []) w e w' := by
  have e2 : mvL f L t 2 [] = if t + 1 ≤ (L.length : Int) then t + 1 else (L.length : Int) := by
    unfold mvL
    rw [if_neg (by decide), if_neg (by decide), if_pos rfl]
  rw [e2]
  clear e2
  obtain ⟨pf, ka, i, d, hS, ⟨c, hc, rfl, rfl, hF⟩ | ⟨c, hc, rfl, rfl, hF⟩ | ⟨rfl, rfl⟩ | ⟨rfl, rfl⟩⟩ := h
  · rw [if_pos (by omega), show (c : Int) + 1 = ((c + 1 : Nat) : Int) by omega]
    exact mgNext_fw hV hM hn hl hb hS hc hF
  · rw [if_pos (by omega), show (c : Int) + 1 = ((c + 1 : Nat) : Int) by omega]
    exact mgNext_bw hV hM hn hl hb hq hS hc hF
  · rw [if_pos (by omega), show (-1 : Int) + 1 = 0 by omega]
    exact mgNext_soi hV hM hn hl hb hS
  · rw [if_neg (by omega)]
    refine (mgNext_eoi hS).mono ?_
    rintro e w' ⟨rfl, rfl⟩
    exact ⟨false, rfl, Lib.hid on_len.symm, Lib.hid ⟨pf, ka, i, 1, hS, .inr (.inr (.inr ⟨rfl, rfl⟩))⟩, Lib.hid (Fr.refl _ _)⟩
end

end Go.Proofs.YtdkkkikcigjlhaaGreatDoor.Md

namespace Go.Proofs.YtdkkkikcigjlhaaGreatDoor.Md
open Go.RowKit Go.Proofs.YtdkkkikcigjlhaaGreatDoor.Con Go.Proofs.YtdkkkikcigjlhaaGreatDoor.Run Go.Proofs.YtdkkkikcigjlhaaGreatDoorW.PrintWords Go.Proofs.YtdkkkikcigjlhaaGreatDoorW.PrintMore Go.Proofs.YtdkkkikcigjlhaaGreatDoor.Cmp Go.Sort Go.RwLone Go.Proofs.YtdkkkikcigjlhaaGreatDoor.PFnMemMap

def tgM (f : List Int → List Int → Int) (L : List KV) (LL : List (List S44)) (c x j y : Nat) : Int := if y < j ∧ y ≠ x then tgB f L LL c y else tgF f L LL c y

section
variable {V : Value} {f : List Int → List Int → Int} {LL : List (List S44)} {L : List KV} {k : Nat} {Ai : Option Addr} {kc m kb : Nat} {R : Nat → Prop} {it : Nat → Nat} {w w1 : World} {pf : Nat → Int} {ka : Array Value} {i d t : Int} {c x : Nat}

theorem tgM_zero (y : Nat) : tgM f L LL c x 0 y = tgF f L LL c y := if_neg (fun h => by omega)
theorem tgM_self (j : Nat) : tgM f L LL c x j x = tgF f L LL c x := if_neg (fun h => h.2 rfl)
theorem tgM_skip (y : Nat) : tgM f L LL c x (x + 1) y = tgM f L LL c x x y := by
  unfold tgM
  by_cases h : y < x
  · rw [if_pos ⟨by omega, by omega⟩, if_pos ⟨h, by omega⟩]
  · rw [if_neg (fun q => by omega), if_neg (fun q => by omega)]
theorem tgM_at {j : Nat} (h : j ≠ x) : tgM f L LL c x (j + 1) j = tgB f L LL c j := if_pos ⟨Nat.lt_succ_self _, h⟩
theorem tgM_off {j y : Nat} (h : y ≠ j) : tgM f L LL c x (j + 1) y = tgM f L LL c x j y := by
  unfold tgM
  by_cases q : y < j ∧ y ≠ x
  · rw [if_pos ⟨by omega, q.2⟩, if_pos q]
  · rw [if_neg (fun z => q ⟨by omega, z.2⟩), if_neg q]
theorem tgM_end {y : Nat} (hy : y < k) (h : y ≠ x) : tgM f L LL c x k y = tgB f L LL c y := if_pos ⟨hy, h⟩

theorem hdP_yes {l : List S44} {p : Int} (h : onL (kvS l) p = true) : hdP l p = some (keyL (kvS l) p) := by unfold hdP; rw [if_pos h]
theorem on_p {l : List S44} {p : Nat} (h : p < l.length) : onL (kvS l) (p : Int) = true := by
  unfold onL
  rw [kvS_len, decide_eq_true (p := (0 : Int) ≤ (p : Int)) (by omega), decide_eq_true (p := (p : Int) < (l.length : Int)) (by omega)]
  rfl
end

end Go.Proofs.YtdkkkikcigjlhaaGreatDoor.Md
