/- Batches as goleveldb keeps them: the function that puts a row into the index. -/
import Derived.Test.YtddjenmengipkaaBtImpl
namespace Go.Proofs.Ytddjenmengipkaa.Bt
open Go.RowKit Go.Proofs.YtddjenmengipkaaW.PrintWords Go.Proofs.YtddjenmengipkaaW.PrintMore Go.Proofs.Ytddjenmengipkaa.PFnBatchLoads Go.Proofs.Ytddjenmengipkaa.Cmp
set_option linter.unusedVariables false

/-- a batch in a block of its own, its index a row of its own -/
structure BatS (w : World) (base g : Nat) (vd vi : Value) (n : Nat) (cs : List Value) : Prop where
  cells : ∃ il : Int, w.heap[g]? = some (.cells #[vd, vi, .int .i64 il] 45 (0, 0))
  row : w.ownsRow base 73 5 vi n cs
  at_ : base ≤ g

/-- blocks that are none of the batch's stay as they are -/
def Others (w w' : World) (g : Nat) (vi vi' : Value) : Prop := ∀ b, b < w.heap.size → some b ≠ vi.ownBlock → b ≠ g → w'.heap[b]? = w.heap[b]? ∧ some b ≠ vi'.ownBlock

theorem BatS.below {w w1 : World} {base g : Nat} {vd vi : Value} {n : Nat} {cs : List Value} (h : BatS w base g vd vi n cs) (hb : Below w.heap.size w w1) : BatS w1 base g vd vi n cs := by
  obtain ⟨il, hc⟩ := h.cells
  exact ⟨⟨il, (hb.block g (blk_lt hc)).trans hc⟩, pw_own_below h.row hb, h.at_⟩

theorem info_ix : (Try.prog.info? 73).map (fun i => (i.zero, i.size, i.bytes)) = some (some (.agg #[.int .u64 0, .int .i64 0, .int .i64 0, .int .i64 0, .int .i64 0]), 5, 40) := by kernel_rfl

theorem Ix.one (x : Ix) : ∀ u ∈ x.cells, u.oneCell' = true := by
  intro u hu
  simp only [Ix.cells, List.mem_cons, List.not_mem_nil, or_false] at hu
  rcases hu with rfl | rfl | rfl | rfl | rfl <;> rfl

theorem own_slice {w : World} {base n size : Nat} {e : TypeId} {v : Value} {xs : List Value} (h : w.ownsRow base e size v n xs) : ∃ A c, v = .slice A n c := by
  rcases h.2 with ⟨rfl, h2⟩ | ⟨g, cap, cur, rfl, _⟩
  · have : n = 0 := by first | exact h2.1 | exact h2 | omega
    exact ⟨none, 0, by rw [this]⟩
  · exact ⟨_, _, rfl⟩

set_option maxHeartbeats 800000 in
set_option maxRecDepth 100000 in
theorem put_calls {w : World} {base g gv : Nat} {vd vi : Value} {n : Nat} {cs : List Value} (hG : BatS w base g vd vi n cs) (hbase : base ≤ w.heap.size) (hn : n ≤ 4294967296) (hcap : w.heap[gv]? = some (.cells #[.pointer (some ⟨g, 0, none⟩)] 42 (0, 0))) (i : Int) (x : Ix) :
    Calls Try.prog 36 #[.int .i64 i, .agg #[.int .u64 x.kt, .int .i64 x.kp, .int .i64 x.kl, .int .i64 x.vp, .int .i64 x.vl], .pointer (some ⟨gv, 0, none⟩)] w fun e w' => e = .returned .nilIface ∧ Below base w w' ∧ w'.heap[gv]? = w.heap[gv]? ∧ ∃ vi', BatS w' base g vd vi' (n + 1) (cs ++ x.cells) ∧ Others w w' g vi vi' := by
  obtain ⟨il, hcells⟩ := hG.cells
  obtain ⟨kt, kp, kl, vp, vl⟩ := x
  have hne : g ≠ gv := by
    rintro rfl
    rw [hcells] at hcap
    simp at hcap
  have hb1 := below_alloc (Below.refl w.heap.size w) (.cells #[.int .u64 kt, .int .i64 kp, .int .i64 kl, .int .i64 vp, .int .i64 vl] 73)
  have hk1 := (hb1.block g (blk_lt hcells)).trans hcells
  have hv1 := (hb1.block gv (blk_lt hcap)).trans hcap
  have hx1 := blk_new w (.cells #[.int .u64 kt, .int .i64 kp, .int .i64 kl, .int .i64 vp, .int .i64 vl] 73)
  have e0 := blk_cell hk1 0
  have e1 := blk_cell hk1 1
  have e2 := blk_cell hk1 2
  have ev := blk_cell hv1 0
  simp at e0 e1 e2 ev
  go_enter Try.func36, Try.ntmps36
  go_wp2
  have hG1 := hG.below hb1
  have hz1 := hb1.size
  have x0 := blk_cell hx1 0
  have x1 := blk_cell hx1 1
  have x2 := blk_cell hx1 2
  have x3 := blk_cell hx1 3
  have x4 := blk_cell hx1 4
  simp only [List.getElem?_toArray, List.getElem?_cons_zero, List.getElem?_cons_succ] at x0 x1 x2 x3 x4
  have hlt : w.heap.size < (w.alloc (.cells #[.int .u64 kt, .int .i64 kp, .int .i64 kl, .int .i64 vp, .int .i64 vl] 73)).heap.size := by simp
  have HB1 := Lib.hid hb1
  clear hb1
  generalize w.alloc (.cells #[.int .u64 kt, .int .i64 kp, .int .i64 kl, .int .i64 vp, .int .i64 vl] 73) = w1 at *
  have a1 : ∀ o : Obj, (w1.alloc o).cell? ⟨g, 1, none⟩ = some vi := fun o => (blk_cell (((below_alloc (Below.refl w1.heap.size w1) o).block g (blk_lt hk1)).trans hk1) 1).trans rfl
  have av : ∀ o : Obj, (w1.alloc o).cell? ⟨gv, 0, none⟩ = some (.pointer (some ⟨g, 0, none⟩)) := fun o => (blk_cell (((below_alloc (Below.refl w1.heap.size w1) o).block gv (blk_lt hv1)).trans hv1) 0).trans rfl
  go_cut [13] (fun v13 wc => ∃ (A2 : Option Addr) (c2 : Nat), v13 = .slice A2 (n + 1) c2 ∧ Hid (wc.heap[g]? = some (.cells #[vd, .slice A2 (n + 1) c2, .int .i64 il] 45 (0, 0))) ∧ Hid (wc.heap[gv]? = some (.cells #[.pointer (some ⟨g, 0, none⟩)] 42 (0, 0))) ∧ Hid (wc.heap[w.heap.size]? = some (.cells #[.int .u64 kt, .int .i64 kp, .int .i64 kl, .int .i64 vp, .int .i64 vl] 73 (0, 0))) ∧ Hid (Below base w1 wc) ∧ Hid (Others w wc g vi (.slice A2 (n + 1) c2)) ∧ Hid (wc.ownsRow base 73 5 (.slice A2 (n + 1) c2) (n + 1) (cs ++ [.int .u64 kt, .int .i64 kp, .int .i64 kl, .int .i64 vp, .int .i64 vl])))
  case first =>
    rename_i J K' hJ hK
    go_region_law
      (first
        | (refine step_append_cells (W := w1.drew) base rfl (.tmp 10) (.tmp 12) 43 73 _ 5 40 rfl Try.underlying43 info_ix rfl (by decide) (by decide) vi n cs [.int .u64 kt, .int .i64 kp, .int .i64 kl, .int .i64 vp, .int .i64 vl] rfl rfl rfl (Ix.one ⟨kt, kp, kl, vp, vl⟩) hG1.row.drew (Below.refl base w1).drew (Nat.le_trans hbase hz1) (by omega) ?_; intro v2 w2 hr2 hb2 hg2 hat2; obtain ⟨A2, cc2, rfl⟩ := own_slice hr2; have hk2 := (hg2.block g (blk_lt hk1) (own_ne hG1.row hk1 (by decide))).trans hk1; have y1 := blk_cell hk2 1; have y3 := blk_frozen hk2 1; have hv2 := (hg2.block gv (blk_lt hv1) (own_ne hG1.row hv1 (by decide))).trans hv1; have yv := (blk_cell hv2 0).trans rfl))
    all_goals
      have hx2 := (hg2.block w.heap.size hlt (own_far hG.row (Nat.le_refl _))).trans hx1
      simp only [Exit.then]
      refine hK _ _ (Met.intro (hJ _ _ ?_))
      repeat apply Exists.intro
      refine ⟨?_, rfl⟩
      exact ⟨A2, cc2, rfl, Lib.hid ((blk_set hk2 1 (Value.slice A2 (n + 1) cc2)).trans rfl), Lib.hid (blk_far hv2 (p := ⟨g, 1, none⟩) (Ne.symm hne) _), Lib.hid (blk_far hx2 (p := ⟨g, 1, none⟩) (Nat.ne_of_gt (blk_lt hcells)) _), Lib.hid (hb2.setCell (p := ⟨g, 1, none⟩) hG.at_ _), Lib.hid (fun b q1 q2 q3 => ⟨(Below.heap_setCell _ _ _ b q3).trans ((hg2.block b (show b < w1.heap.size from Nat.lt_trans q1 hlt) q2).trans (HB1.out.block b q1)), by
        rcases hat2 with e | ⟨b', e, hle⟩
        · rw [e]; exact q2
        · rw [e]; intro e3; injection e3 with e3; have hle : w1.heap.size ≤ b' := hle; omega⟩), Lib.hid (own_setCell (p := ⟨g, 1, none⟩) hr2 (own_ne hr2 hk2 (by decide)) _)⟩
  case rest =>
    obtain ⟨A2, c2, rfl, K4, V4, X4, B4, O4, R4⟩ := hcut
    clear x0 x1 x2 x3 x4 e0 e1 e2 ev a1 av
    go_wp2
    refine still_tail 13 (by kernel_rfl) (by kernel_rfl) ?_
    intro W3 hW3
    have h3 : W3.heap = wc.heap := by rw [hW3]; rfl
    have k3 : W3.heap[g]? = some (.cells #[vd, .slice A2 (n + 1) c2, .int .i64 il] 45 (0, 0)) := by rw [h3]; exact K4.out
    have v3 : W3.heap[gv]? = some (.cells #[.pointer (some ⟨g, 0, none⟩)] 42 (0, 0)) := by rw [h3]; exact V4.out
    have x3 : W3.heap[w.heap.size]? = some (.cells #[.int .u64 kt, .int .i64 kp, .int .i64 kl, .int .i64 vp, .int .i64 vl] 73 (0, 0)) := by rw [h3]; exact X4.out
    have b3 : Below base w1 W3 := by rw [hW3]; exact B4.out.drew
    have o3 : Hid (Others w W3 g vi (.slice A2 (n + 1) c2)) := by
      refine Lib.hid (fun b q1 q2 q3 => ?_)
      have := O4.out b q1 q2 q3
      rw [h3]
      exact this
    have r3 : W3.ownsRow base 73 5 (.slice A2 (n + 1) c2) (n + 1) (cs ++ [.int .u64 kt, .int .i64 kp, .int .i64 kl, .int .i64 vp, .int .i64 vl]) := by rw [hW3]; exact R4.out.drew
    clear hW3 h3
    have y0 := blk_cell k3 2
    have y1 := blk_frozen k3 2
    have y2 := blk_cell v3 0
    have y3 := blk_cell x3 2
    have y4 := blk_cell x3 4
    simp only [List.getElem?_toArray, List.getElem?_cons_zero, List.getElem?_cons_succ] at y0 y2 y3 y4
    simp only [List.take_succ_cons, List.take_zero, List.drop_succ_cons, List.drop_zero]
    repeat still_step
    refine wpStill_nil ?_
    go_wp2
    go_ret
    exact ⟨rfl, (HB1.out.mono hbase).trans (b3.setCell (p := ⟨g, 2, none⟩) hG.at_ _), (blk_far v3 (p := ⟨g, 2, none⟩) (Ne.symm hne) _).trans hcap.symm, _, ⟨⟨_, (blk_set k3 2 _).trans rfl⟩, own_setCell (p := ⟨g, 2, none⟩) r3 (own_ne r3 k3 (by decide)) _, hG.at_⟩, fun b q1 q2 q3 => ⟨(Below.heap_setCell _ _ _ b q3).trans (o3.out b q1 q2 q3).1, (o3.out b q1 q2 q3).2⟩⟩

/-- the same at whole numbers -/
theorem put_int {w : World} {base g gv : Nat} {vd vi : Value} {n : Nat} {cs : List Value} (hG : BatS w base g vd vi n cs) (hbase : base ≤ w.heap.size) (hn : n ≤ 4294967296) (hcap : w.heap[gv]? = some (.cells #[.pointer (some ⟨g, 0, none⟩)] 42 (0, 0))) (i a b c d e : Int) (ha : 0 ≤ a) (hb : 0 ≤ b) (hc : 0 ≤ c) (hd : 0 ≤ d) (he : 0 ≤ e) :
    Calls Try.prog 36 #[.int .i64 i, .agg #[.int .u64 a, .int .i64 b, .int .i64 c, .int .i64 d, .int .i64 e], .pointer (some ⟨gv, 0, none⟩)] w fun o w' => o = .returned .nilIface ∧ Below base w w' ∧ w'.heap[gv]? = w.heap[gv]? ∧ ∃ vi', BatS w' base g vd vi' (n + 1) (cs ++ (Ix.mk a.toNat b.toNat c.toNat d.toNat e.toNat).cells) ∧ Others w w' g vi vi' := by
  obtain ⟨a, rfl⟩ := Int.eq_ofNat_of_zero_le ha
  obtain ⟨b, rfl⟩ := Int.eq_ofNat_of_zero_le hb
  obtain ⟨c, rfl⟩ := Int.eq_ofNat_of_zero_le hc
  obtain ⟨d, rfl⟩ := Int.eq_ofNat_of_zero_le hd
  obtain ⟨e, rfl⟩ := Int.eq_ofNat_of_zero_le he
  exact put_calls hG hbase hn hcap i ⟨a, b, c, d, e⟩

end Go.Proofs.Ytddjenmengipkaa.Bt
