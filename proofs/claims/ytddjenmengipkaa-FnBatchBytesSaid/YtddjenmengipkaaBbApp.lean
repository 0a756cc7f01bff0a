/- Batches written: goleveldb's Batch.appendRec, Put, Delete. -/
import Derived.Test.YtddjenmengipkaaBbGrow
import Derived.Test.YtddjenmengipkaaBtClo
import Derived.Test.YtddjenmengipkaaBtLoad
namespace Go.Proofs.Ytddjenmengipkaa.Bt
open Go.RowKit Go.Proofs.YtddjenmengipkaaW.PrintWords Go.Proofs.YtddjenmengipkaaW.PrintMore Go.Proofs.Ytddjenmengipkaa.PFnBatchLoads Go.Proofs.Ytddjenmengipkaa.Cmp
set_option linter.unusedVariables false

/-- a batch being written: its bytes, its index's length -/
structure Bw (w : World) (base g : Nat) (vd vi : Value) (l : List Int) (n : Nat) : Prop where
  cell : ∃ il : Int, w.heap[g]? = some (.cells #[vd, vi, .int .i64 il] 45 (0, 0))
  data : w.ownsRow base 5 1 vd l.length (nums .u8 l)
  cap : capOf vd ≤ 1099511627776
  row : ∃ cs, w.ownsRow base 73 5 vi n cs
  at_ : base ≤ g

theorem cut_own {g o n c m : Nat} (hm : m ≤ n) (hc : m < c) (W : World) :
    (Instr.slice 22 (.slice (some ⟨g, o, none⟩) n c) (some (.int .i64 (m : Int))) none none).run Try.prog W = .ok (.slice (some ⟨g, o + m, none⟩) (n - m) (c - m)) W := by
  obtain ⟨i0, hi, hzz⟩ := Option.map_eq_some_iff.1 info_u8
  simp only [Prod.mk.injEq] at hzz
  have ht : Try.prog.underlying 22 = some (.slice 5) := Try.underlying22
  have hel : Try.prog.elem 22 = 5 := by simp [Program.elem, ht]
  have hu : Try.prog.underlying 22 = some (.slice (Try.prog.elem 22)) := by rw [hel]; exact ht
  rw [run_slice_l W 22 (some ⟨g, o, none⟩) n c hu .i64 (m : Int) (Int.natCast_nonneg _) (by omega), hel]
  have e : (⟨g, o, none⟩ : Addr).add m = ⟨g, o + m, none⟩ := by
    unfold Addr.add
    split
    · subst m; rfl
    · rfl
  have hne : ¬ c = m := by omega
  simp [sizeOf, typeInfo, hi, hzz.2.1, sliced, Result.andThen, hne, e]

theorem upto_own {g n c m : Nat} (hm : m ≤ c) (W : World) :
    (Instr.slice 22 (.slice (some ⟨g, 0, none⟩) n c) none (some (.int .i64 (m : Int))) none).run Try.prog W = .ok (.slice (some ⟨g, 0, none⟩) m c) W := by
  obtain ⟨i0, hi, hzz⟩ := Option.map_eq_some_iff.1 info_u8
  simp only [Prod.mk.injEq] at hzz
  have ht : Try.prog.underlying 22 = some (.slice 5) := Try.underlying22
  have hel : Try.prog.elem 22 = 5 := by simp [Program.elem, ht]
  have hu : Try.prog.underlying 22 = some (.slice (Try.prog.elem 22)) := by rw [hel]; exact ht
  rw [run_slice_h W 22 (some ⟨g, 0, none⟩) n c hu .i64 (m : Int) (Int.natCast_nonneg _) (by omega), hel]
  have e : (⟨g, 0, none⟩ : Addr).add 0 = ⟨g, 0, none⟩ := add_zero _
  simp [sizeOf, typeInfo, hi, hzz.2.1, sliced, Result.andThen, e]

/-- the batch while a record is written: its block g, the record's row in block X, the bytes in block dg -/
structure Wr (w W : World) (base g X dg cap : Nat) (vd vi : Value) (il : Int) (n : Nat) (cs : List Value) (xs : Array Value) (L : List Int) : Prop where
  cell : W.heap[g]? = some (.cells #[vd, vi, .int .i64 il] 45 (0, 0))
  box : W.heap[X]? = some (.cells xs 73 (0, 0))
  row : W.ownsRow base 73 5 vi n cs
  buf : Buf W dg cap L
  low : Below base w W
  ne1 : g ≠ X
  ne2 : g ≠ dg
  ne3 : X ≠ dg
  far : some X ≠ vi.ownBlock
  atG : base ≤ g
  atX : base ≤ X
  atD : base ≤ dg
  bw : base ≤ W.heap.size

theorem Wr.dgrow {w W : World} {base g X dg cap : Nat} {vd vi : Value} {il : Int} {n : Nat} {cs : List Value} {xs : Array Value} {L : List Int} (h : Wr w W base g X dg cap vd vi il n cs xs L) : some dg ≠ vi.ownBlock := by
  obtain ⟨cur, h1, _⟩ := h.buf
  exact own_ne h.row h1 (by decide)

theorem Wr.setX {w W : World} {base g X dg cap : Nat} {vd vi : Value} {il : Int} {n : Nat} {cs : List Value} {xs : Array Value} {L : List Int} (h : Wr w W base g X dg cap vd vi il n cs xs L) (i : Nat) (u : Value) : Wr w (W.setCell ⟨X, i, none⟩ u) base g X dg cap vd vi il n cs (xs.setIfInBounds i u) L :=
  ⟨blk_far h.cell (p := ⟨X, i, none⟩) h.ne1 u, blk_set h.box i u, own_setCell (p := ⟨X, i, none⟩) h.row h.far u, h.buf.far (Below.heap_setCell _ _ _ _ (Ne.symm h.ne3)), h.low.setCell (p := ⟨X, i, none⟩) h.atX u, h.ne1, h.ne2, h.ne3, h.far, h.atG, h.atX, h.atD, by simpa using h.bw⟩

theorem Wr.setG {w W : World} {base g X dg cap : Nat} {vd vi : Value} {il : Int} {n : Nat} {cs : List Value} {xs : Array Value} {L : List Int} (h : Wr w W base g X dg cap vd vi il n cs xs L) (u : Value) : Wr w (W.setCell ⟨g, 0, none⟩ u) base g X dg cap u vi il n cs xs L :=
  ⟨(blk_set h.cell 0 u).trans rfl, blk_far h.box (p := ⟨g, 0, none⟩) (Ne.symm h.ne1) u, own_setCell (p := ⟨g, 0, none⟩) h.row (own_ne h.row h.cell (by decide)) u, h.buf.far (Below.heap_setCell _ _ _ _ (Ne.symm h.ne2)), h.low.setCell (p := ⟨g, 0, none⟩) h.atG u, h.ne1, h.ne2, h.ne3, h.far, h.atG, h.atX, h.atD, by simpa using h.bw⟩

theorem Wr.fill {w W W1 : World} {base g X dg cap : Nat} {vd vi : Value} {il : Int} {n : Nat} {cs : List Value} {xs : Array Value} {L L1 : List Int} (h : Wr w W base g X dg cap vd vi il n cs xs L) (hg : W.grownBy W1 (some dg)) (hb : Buf W1 dg cap L1) : Wr w W1 base g X dg cap vd vi il n cs xs L1 :=
  ⟨(hg.block g (blk_lt h.cell) (fun e => h.ne2 (by injection e))).trans h.cell, (hg.block X (blk_lt h.box) (fun e => h.ne3 (by injection e))).trans h.box, own_other h.row hg (Or.inr (Ne.symm h.dgrow)), hb, h.low.grown hg h.bw (fun k hk => by injection hk with hk; rw [← hk]; exact h.atD), h.ne1, h.ne2, h.ne3, h.far, h.atG, h.atX, h.atD, Nat.le_trans h.bw hg.size⟩

theorem Wr.byte {w W : World} {base g X dg cap : Nat} {vd vi : Value} {il : Int} {n : Nat} {cs : List Value} {xs : Array Value} {L : List Int} (h : Wr w W base g X dg cap vd vi il n cs xs L) (b : Int) (hl : L.length < cap) : Wr w (W.setCell ⟨dg, L.length, none⟩ (.int .u8 b)) base g X dg cap vd vi il n cs xs (L ++ [b]) :=
  h.fill (grown_set _ _ _ _) (h.buf.put hl b)

theorem Wr.index {w W w2 : World} {base g X dg cap : Nat} {vd vi v2 : Value} {il : Int} {n : Nat} {cs ys : List Value} {xs : Array Value} {L : List Int} (h : Wr w W base g X dg cap vd vi il n cs xs L) (hr2 : w2.ownsRow base 73 5 v2 (n + 1) (cs ++ ys)) (hg2 : W.drew.grownBy w2 vi.ownBlock) (hat2 : v2.ownBlock = vi.ownBlock ∨ ∃ b, v2.ownBlock = some b ∧ W.drew.heap.size ≤ b) :
    Wr w (w2.setCell ⟨g, 1, none⟩ v2) base g X dg cap vd v2 il (n + 1) (cs ++ ys) xs L := by
  have hgr : W.grownBy w2 vi.ownBlock := ⟨hg2.os, hg2.tape, hg2.output, hg2.size, hg2.block⟩
  have hk2 := (hgr.block g (blk_lt h.cell) (own_ne h.row h.cell (by decide))).trans h.cell
  have hx2 := (hgr.block X (blk_lt h.box) h.far).trans h.box
  obtain ⟨cur, hcur, hc2, hc3⟩ := h.buf
  have hd2 := (hgr.block dg (blk_lt hcur) (own_ne h.row hcur (by decide))).trans hcur
  have hlow : Below base w w2 := h.low.grown hgr h.bw (fun k hk => by
    rcases h.row.2 with ⟨q, _⟩ | ⟨q1, q2, q3, q4, q5, _⟩
    · rw [q] at hk; cases hk
    · rw [q4] at hk; injection hk with hk; rw [← hk]; exact q5)
  have hfar : some X ≠ v2.ownBlock := by
    rcases hat2 with e | ⟨b, e, hle⟩
    · rw [e]; exact h.far
    · rw [e]; intro e3; injection e3 with e3; have := blk_lt h.box; have hle : W.heap.size ≤ b := hle; omega
  exact ⟨(blk_set hk2 1 v2).trans rfl, blk_far hx2 (p := ⟨g, 1, none⟩) (Ne.symm h.ne1) v2, own_setCell (p := ⟨g, 1, none⟩) hr2 (own_ne hr2 hk2 (by decide)) v2, ⟨cur, blk_far hd2 (p := ⟨g, 1, none⟩) (Ne.symm h.ne2) v2, hc2, hc3⟩, hlow.setCell (p := ⟨g, 1, none⟩) h.atG v2, h.ne1, h.ne2, h.ne3, hfar, h.atG, h.atX, h.atD, by simpa using Nat.le_trans h.bw hgr.size⟩

theorem Wr.drew {w W : World} {base g X dg cap : Nat} {vd vi : Value} {il : Int} {n : Nat} {cs : List Value} {xs : Array Value} {L : List Int} (h : Wr w W base g X dg cap vd vi il n cs xs L) : Wr w W.drew base g X dg cap vd vi il n cs xs L :=
  ⟨h.cell, h.box, h.row.drew, h.buf, h.low.drew, h.ne1, h.ne2, h.ne3, h.far, h.atG, h.atX, h.atD, h.bw⟩

set_option maxHeartbeats 3200000 in
set_option maxRecDepth 100000 in
theorem appendDel_calls {w : World} {base g n : Nat} {vd vi : Value} {l k : List Int} {A : Option Addr} {c : Nat} (hB : Bw w base g vd vi l n) (hbase : base ≤ w.heap.size) (hk : ∀ W, Below base w W → Kd.C (Kd.int .u8) W A k.length k) (hkl : k.length ≤ 1048576) (hl : l.length ≤ 4194304) (hn : n ≤ 1048576) :
    Calls Try.prog 34 #[.pointer (some ⟨g, 0, none⟩), .int .u64 0, .slice A k.length c, .slice none 0 0] w fun e w' => e = .returned (.tuple #[]) ∧ Below base w w' ∧ ∃ vd' vi', Bw w' base g vd' vi' (l ++ bwR (true, k, [])) (n + 1) := by
  obtain ⟨cs, hrow⟩ := hB.row
  obtain ⟨Ai, ci, rfl⟩ := own_slice hrow
  obtain ⟨il, hcell⟩ := hB.cell
  have HCELL := Lib.hid hcell
  have HB := Lib.hid hB
  have HROW := Lib.hid hrow
  have hg : ∀ N : Nat, 1 ≤ N → N ≤ 4194304 → Hid (Calls Try.prog 38 #[.pointer (some ⟨g, 0, none⟩), .int .i64 (N : Int)] w (GrowTold base g vd (.slice Ai n ci) il l N w)) := fun N q1 q2 => Lib.hid (grow_calls hcell hB.data hbase q1 q2 hB.cap (by omega) (by omega))
  have hgr := hg (6 + k.length) (by omega) (by omega)
  have hul := uvO_len 3 k.length (by omega) (by omega)
  have HUL := Lib.hid hul
  have hCW : ∀ W, Below base w W → Hid (Kd.C (Kd.int .u8) W A k.length k) := fun W hW => Lib.hid (hk W hW)
  clear hB hk hrow hg hul hcell
  generalize hkn : k.length = kn at *
  generalize hln : l.length = ln at *
  have HKN := Lib.hid hkn
  have HLN := Lib.hid hln
  clear hkn hln
  simp only [Int.natCast_add] at hgr
  rw [show ((6 : Nat) : Int) = 6 from rfl] at hgr
  go_enter Try.func34, Try.ntmps34
  go_upto_region 5 with (go_at_call 38; (with_reducible refine hgr.out.mono ?_); rintro e w1 ⟨rfl, dg, cap, hc1, hr1, hf1, hf2, hg1, hat1⟩)
  have hcell := HCELL.out
  have hgl := blk_lt hcell
  have hr0 := own_other HROW.out hg1 (Or.inr (fun e => own_ne HROW.out hcell (by decide) e.symm))
  have hba := below_alloc (Below.refl w1.heap.size w1) (.cells #[.int .u64 0, .int .i64 0, .int .i64 0, .int .i64 0, .int .i64 0] 73)
  have hW : Wr w (w1.alloc (.cells #[.int .u64 0, .int .i64 0, .int .i64 0, .int .i64 0, .int .i64 0] 73)) base g w1.heap.size dg cap (.slice (some ⟨dg, 0, none⟩) l.length cap) (.slice Ai n ci) il n cs #[.int .u64 0, .int .i64 0, .int .i64 0, .int .i64 0, .int .i64 0] l := by
    have hdl := own_Buf hr1
    obtain ⟨cur, hcur, _⟩ := hdl
    have hlow : Below base w w1 := (Below.refl base w).grown hg1 hbase (fun k hk => by injection hk with hk; rw [← hk]; exact HB.out.at_)
    exact ⟨(hba.block g (Nat.lt_of_lt_of_le hgl hg1.size)).trans hc1, blk_new w1 _, pw_own_below hr0 hba, (own_Buf hr1).below hba, below_then hlow (Nat.le_trans hbase hg1.size) hba, Nat.ne_of_lt (Nat.lt_of_lt_of_le hgl hg1.size), fun e => by rw [← e, hc1] at hcur; simp at hcur, Nat.ne_of_gt (blk_lt hcur), own_far hr0 (Nat.le_refl _), HB.out.at_, Nat.le_trans hbase hg1.size, (by
      rcases hr1.2 with ⟨q, _⟩ | ⟨g', c', cur', q, q2, _⟩
      · cases q
      · injection q with q _ _; injection q with q; injection q with q; rw [q]; exact q2), Nat.le_trans (Nat.le_trans hbase hg1.size) hba.size⟩
  have hX : w1.heap.size < (w1.alloc (.cells #[.int .u64 0, .int .i64 0, .int .i64 0, .int .i64 0, .int .i64 0] 73)).heap.size := by simp
  clear hcell hgl hr0 hba hc1 hr1 hg1 hat1 hgr
  generalize w1.alloc (.cells #[.int .u64 0, .int .i64 0, .int .i64 0, .int .i64 0, .int .i64 0] 73) = W1 at *
  generalize w1.heap.size = X at *
  have HW := Lib.hid hW
  rw [HLN.out] at hf1 hW
  have g0 := (blk_cell hW.cell 0).trans rfl
  obtain ⟨ov, hov⟩ := hW.buf.cell (i := ln) (by omega)
  have hfz := hW.buf.frozen ln
  clear hW
  have hs1 : ∀ W, (Instr.slice 22 (.slice (some ⟨dg, 0, none⟩) ln cap) none (some (.int .i64 ((ln : Int) + (6 + (kn : Int))))) none).run Try.prog W = .ok (.slice (some ⟨dg, 0, none⟩) (ln + (6 + kn)) cap) W := fun W => by
    have := upto_own (g := dg) (n := ln) (c := cap) (m := ln + (6 + kn)) (by omega) W
    rwa [show ((ln + (6 + kn) : Nat) : Int) = (ln : Int) + (6 + (kn : Int)) by omega] at this
  have hs2 : ∀ W, (Instr.slice 22 (.slice (some ⟨dg, 0, none⟩) (ln + (6 + kn)) cap) (some (.int .i64 ((ln : Int) + 1))) none none).run Try.prog W = .ok (.slice (some ⟨dg, ln + 1, none⟩) (ln + (6 + kn) - (ln + 1)) (cap - (ln + 1))) W := fun W => by
    have := cut_own (g := dg) (o := 0) (n := ln + (6 + kn)) (c := cap) (m := ln + 1) (by omega) (by omega) W
    rwa [Nat.zero_add, show ((ln + 1 : Nat) : Int) = (ln : Int) + 1 by omega] at this
  obtain ⟨u, hu⟩ : ∃ u, u = (uvO kn).length := ⟨_, rfl⟩
  have hu1 : 1 ≤ u ∧ u ≤ 3 := by rw [hu]; exact HUL.out
  have hs3 : ∀ W, (Instr.slice 22 (.slice (some ⟨dg, 0, none⟩) (ln + (6 + kn)) cap) (some (.int .i64 ((ln : Int) + 1 + (u : Int)))) none none).run Try.prog W = .ok (.slice (some ⟨dg, ln + 1 + u, none⟩) (ln + (6 + kn) - (ln + 1 + u)) (cap - (ln + 1 + u))) W := fun W => by
    have := cut_own (g := dg) (o := 0) (n := ln + (6 + kn)) (c := cap) (m := ln + 1 + u) (by omega) (by omega) W
    rwa [Nat.zero_add, show ((ln + 1 + u : Nat) : Int) = (ln : Int) + 1 + (u : Int) by omega] at this
  have hs4 : ∀ W, (Instr.slice 22 (.slice (some ⟨dg, 0, none⟩) (ln + (6 + kn)) cap) none (some (.int .i64 ((ln : Int) + 1 + (u : Int) + (kn : Int)))) none).run Try.prog W = .ok (.slice (some ⟨dg, 0, none⟩) (ln + 1 + u + kn) cap) W := fun W => by
    have := upto_own (g := dg) (n := ln + (6 + kn)) (c := cap) (m := ln + 1 + u + kn) (by omega) W
    rwa [show ((ln + 1 + u + kn : Nat) : Int) = (ln : Int) + 1 + (u : Int) + (kn : Int) by omega] at this
  have HU := Lib.hid hu
  have HS := Lib.hid (show ln + 1 + (ln + (6 + kn) - (ln + 1)) ≤ cap ∧ u ≤ ln + (6 + kn) - (ln + 1) ∧ kn ≤ ln + (6 + kn) - (ln + 1 + u) ∧ ln + 1 + u + kn ≤ cap ∧ (ln + (6 + kn) - (ln + 1)) ≤ 140737488355328 from ⟨by omega, by omega, by omega, by omega, by omega⟩)
  clear hu
  generalize ln + (6 + kn) - (ln + 1) = m1 at *
  generalize ln + (6 + kn) - (ln + 1 + u) = m2 at *
  generalize cap - (ln + 1) = c1 at *
  generalize cap - (ln + 1 + u) = c2 at *
  generalize hM : ln + (6 + kn) = M at *
  have hM2 : ln < M := by omega
  have HMM := Lib.hid hM
  clear hM
  have HW2 := Lib.hid (HW.out.byte 0 (by rw [HLN.out]; omega))
  rw [HLN.out] at HW2
  have hpu : ∀ W, Buf W dg cap (l ++ [0]) → Hid (Calls Try.prog 39 #[.slice (some ⟨dg, ln + 1, none⟩) m1 c1, .int .u64 (kn : Int)] W fun e w' => e = .returned (.int .i64 (u : Int)) ∧ Hid (Buf w' dg cap (l ++ [0] ++ uvO kn)) ∧ Hid (W.grownBy w' (some dg))) := fun W hW => Lib.hid (by
    have e : (l ++ [(0 : Int)]).length = ln + 1 := by rw [List.length_append, HLN.out]; rfl
    have := PutUvarint_calls (c := c1) (m := m1) (x := kn) hW (by rw [← HU.out]; exact HS.out.2.1) (by rw [e]; exact HS.out.1) (by omega) HS.out.2.2.2.2
    rw [e, ← HU.out] at this
    exact this)
  have e2 : (l ++ [(0 : Int)] ++ uvO kn).length = ln + 1 + u := by rw [List.length_append, List.length_append, HLN.out, ← HU.out]; rfl
  have E2 := Lib.hid e2
  clear e2
  have hle := HS.out.2.2.1
  have hlc := HS.out.2.2.2.1
  go_wp2_with (first
    | (go_at_call 39; (with_reducible refine (hpu _ HW2.out.buf).out.mono ?_); rintro e w3 ⟨rfl, hb3, hg3⟩; have HW3 := Lib.hid (HW2.out.fill hg3.out hb3.out); have x1 := (blk_cell HW3.out.box 1).trans rfl; have x2 := (blk_cell HW3.out.box 2).trans rfl; have f1 := blk_frozen HW3.out.box 1; have f2 := blk_frozen HW3.out.box 2)
    | ((with_reducible refine gate_builtin (b := .copy) (xs := #[.tmp 64, .tmp 65]) rfl ?_); have HW4 := Lib.hid ((HW3.out.setX 1 (.int .i64 ((ln : Int) + 1 + (u : Int)))).setX 2 (.int .i64 (kn : Int))); refine copy_Buf rfl (.tmp 64) (.tmp 65) rfl rfl rfl E2.out.symm HKN.out.symm HW4.out.buf (by have := (hCW _ HW4.out.low).out; rw [HKN.out]; exact this) (by rw [HKN.out]; exact hle) (by rw [E2.out, HKN.out]; exact hlc) ?_; intro w5 hb5 hg5; have HW5 := Lib.hid (HW4.out.fill hg5.out hb5.out); have y0 := (blk_cell HW5.out.cell 0).trans rfl; have z0 := blk_frozen HW5.out.cell 0))
  have HW6 := Lib.hid (HW5.out.setG (.slice (some ⟨dg, 0, none⟩) (ln + 1 + u + kn) cap))
  have HX6 : Hid (Wr w (w5.setCell ⟨g, 0, none⟩ (.slice (some ⟨dg, 0, none⟩) (ln + 1 + u + kn) cap)) base g X dg cap (.slice (some ⟨dg, 0, none⟩) (ln + 1 + u + kn) cap) (.slice Ai n ci) il n cs #[.int .u64 0, .int .i64 ((ln : Int) + 1 + (u : Int)), .int .i64 (kn : Int), .int .i64 0, .int .i64 0] (l ++ [0] ++ uvO kn ++ k)) := HW6
  clear y0 z0 x1 x2 f1 f2 hs1 hs2 hs3 hs4 hov hfz g0 hpu
  generalize w5.setCell ⟨g, 0, none⟩ (.slice (some ⟨dg, 0, none⟩) (ln + 1 + u + kn) cap) = W6 at *
  have a1 := (blk_cell HX6.out.cell 1).trans rfl
  have x0 := (blk_cell HX6.out.box 0).trans rfl
  have x1 := (blk_cell HX6.out.box 1).trans rfl
  have x2 := (blk_cell HX6.out.box 2).trans rfl
  have x3 := (blk_cell HX6.out.box 3).trans rfl
  have x4 := (blk_cell HX6.out.box 4).trans rfl
  simp only [List.getElem?_toArray, List.getElem?_cons_zero, List.getElem?_cons_succ] at a1 x0 x1 x2 x3 x4
  have hg6 := blk_lt HX6.out.cell
  have hx6 := blk_lt HX6.out.box
  go_cut [] (fun wc => ∃ (vi' : Value) (cs' : List Value), Hid (Wr w wc base g X dg cap (.slice (some ⟨dg, 0, none⟩) (ln + 1 + u + kn) cap) vi' il (n + 1) cs' #[.int .u64 0, .int .i64 ((ln : Int) + 1 + (u : Int)), .int .i64 (kn : Int), .int .i64 0, .int .i64 0] (l ++ [0] ++ uvO kn ++ k)))
  case first =>
    rename_i J K' hJ hK
    go_region_law
      (first
        | (refine step_append_cells (W := W6.drew) base rfl (.tmp 101) (.tmp 103) 43 73 _ 5 40 rfl Try.underlying43 info_ix rfl (by decide) (by decide) (.slice Ai n ci) n cs [.int .u64 0, .int .i64 ((ln : Int) + 1 + (u : Int)), .int .i64 (kn : Int), .int .i64 0, .int .i64 0] rfl rfl rfl (by simp [Value.oneCell']) HX6.out.row.drew HX6.out.low.drew HX6.out.bw (by omega) ?_; intro v2 w2 hr2 hb2 hg2 hat2; obtain ⟨A2, cc2, rfl⟩ := own_slice hr2; have HI := Lib.hid (HX6.out.index hr2 hg2 hat2); have hk2 := (hg2.block g hg6 (own_ne HX6.out.row HX6.out.cell (by decide))).trans HX6.out.cell; have q1 := (blk_cell hk2 1).trans rfl; have q2 := blk_frozen hk2 1))
    all_goals
      simp only [Exit.then]
      refine hK _ _ (Met.intro (hJ _ _ ?_))
      repeat apply Exists.intro
      refine ⟨?_, rfl⟩
      exact ⟨_, _, HI⟩
  case rest =>
    obtain ⟨vi', cs', HI⟩ := hcut
    clear a1 x0 x1 x2 x3 x4
    go_wp2
    refine still_tail 13 (by kernel_rfl) (by kernel_rfl) ?_
    intro W3 hW3
    have h3 : Wr w W3 base g X dg cap (.slice (some ⟨dg, 0, none⟩) (ln + 1 + u + kn) cap) vi' il (n + 1) cs' #[.int .u64 0, .int .i64 ((ln : Int) + 1 + (u : Int)), .int .i64 (kn : Int), .int .i64 0, .int .i64 0] (l ++ [0] ++ uvO kn ++ k) := by rw [hW3]; exact HI.out.drew
    clear hW3
    have y0 := (blk_cell h3.cell 2).trans rfl
    have y1 := blk_frozen h3.cell 2
    have y3 := (blk_cell h3.box 2).trans rfl
    have y4 := (blk_cell h3.box 4).trans rfl
    simp only [List.getElem?_toArray, List.getElem?_cons_zero, List.getElem?_cons_succ] at y0 y3 y4
    have H3 := Lib.hid h3
    clear h3
    simp only [List.take_succ_cons, List.take_zero, List.drop_succ_cons, List.drop_zero]
    repeat still_step
    refine wpStill_nil ?_
    go_wp2
    go_end0
    refine ⟨rfl, H3.out.low.setCell (p := ⟨g, 2, none⟩) H3.out.atG _, .slice (some ⟨dg, 0, none⟩) (ln + 1 + u + kn) cap, vi', ⟨_, (blk_set H3.out.cell 2 _).trans rfl⟩, ?_, hf2, ⟨cs', own_setCell (p := ⟨g, 2, none⟩) H3.out.row (own_ne H3.out.row H3.out.cell (by decide)) _⟩, H3.out.atG⟩
    have hbf := fun v : Value => H3.out.buf.far (w1 := W3.setCell ⟨g, 2, none⟩ v) (Below.heap_setCell _ _ _ _ (Ne.symm H3.out.ne2))
    have eL : l ++ [0] ++ uvO kn ++ k = l ++ bwR (true, k, []) := by simp [bwR, szO, HKN.out]
    simp only [eL] at hbf
    have eN : (l ++ bwR (true, k, [])).length = ln + 1 + u + kn := by rw [← eL]; simp [HLN.out, HKN.out, ← HU.out]; omega
    have h9 := fun v : Value => (hbf v).own H3.out.atD (by rw [eN]; exact hlc) (by simp only [maxLen]; omega)
    simp only [eN] at h9
    rw [eN]
    exact h9 _

end Go.Proofs.Ytddjenmengipkaa.Bt
