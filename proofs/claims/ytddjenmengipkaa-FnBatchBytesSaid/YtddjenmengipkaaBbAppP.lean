/- Batches written: goleveldb's Batch.appendRec of a put; Put, Delete, Dump. -/
import Derived.Test.YtddjenmengipkaaBbApp
namespace Go.Proofs.Ytddjenmengipkaa.Bt
open Go.RowKit Go.Proofs.YtddjenmengipkaaW.PrintWords Go.Proofs.YtddjenmengipkaaW.PrintMore Go.Proofs.Ytddjenmengipkaa.PFnBatchLoads Go.Proofs.Ytddjenmengipkaa.Cmp
set_option linter.unusedVariables false

set_option maxHeartbeats 3200000 in
set_option maxRecDepth 100000 in
theorem appendPut_calls {w : World} {base g n : Nat} {vd vi : Value} {l k v : List Int} {A Av : Option Addr} {c cv : Nat} (hB : Bw w base g vd vi l n) (hbase : base ≤ w.heap.size) (hk : ∀ W, Below base w W → Kd.C (Kd.int .u8) W A k.length k) (hv : ∀ W, Below base w W → Kd.C (Kd.int .u8) W Av v.length v) (hkl : k.length ≤ 1048576) (hvl : v.length ≤ 1048576) (hl : l.length ≤ 4194304) (hn : n ≤ 1048576) :
    Calls Try.prog 34 #[.pointer (some ⟨g, 0, none⟩), .int .u64 1, .slice A k.length c, .slice Av v.length cv] w fun e w' => e = .returned (.tuple #[]) ∧ Below base w w' ∧ ∃ vd' vi', Bw w' base g vd' vi' (l ++ bwR (false, k, v)) (n + 1) := by
  obtain ⟨cs, hrow⟩ := hB.row
  obtain ⟨Ai, ci, rfl⟩ := own_slice hrow
  obtain ⟨il, hcell⟩ := hB.cell
  have HCELL := Lib.hid hcell
  have HB := Lib.hid hB
  have HROW := Lib.hid hrow
  have hg : ∀ N : Nat, 1 ≤ N → N ≤ 4194304 → Hid (Calls Try.prog 38 #[.pointer (some ⟨g, 0, none⟩), .int .i64 (N : Int)] w (GrowTold base g vd (.slice Ai n ci) il l N w)) := fun N q1 q2 => Lib.hid (grow_calls hcell hB.data hbase q1 q2 hB.cap (by omega) (by omega))
  have hgr := hg (6 + k.length + (5 + v.length)) (by omega) (by omega)
  have hul := uvO_len 3 k.length (by omega) (by omega)
  have HUL := Lib.hid hul
  have hvul := uvO_len 3 v.length (by omega) (by omega)
  have HVUL := Lib.hid hvul
  have hCV : ∀ W, Below base w W → Hid (Kd.C (Kd.int .u8) W Av v.length v) := fun W hW => Lib.hid (hv W hW)
  have hCW : ∀ W, Below base w W → Hid (Kd.C (Kd.int .u8) W A k.length k) := fun W hW => Lib.hid (hk W hW)
  clear hB hk hv hrow hg hul hvul hcell
  generalize hkn : k.length = kn at *
  generalize hvn : v.length = vn at *
  generalize hln : l.length = ln at *
  have HKN := Lib.hid hkn
  have HLN := Lib.hid hln
  have HVN := Lib.hid hvn
  clear hkn hln hvn
  simp only [Int.natCast_add] at hgr
  rw [show ((6 : Nat) : Int) = 6 from rfl, show ((5 : Nat) : Int) = 5 from rfl] at hgr
  go_enter Try.func34, Try.ntmps34
  go_upto_region 5 with (go_at_call 38; (with_reducible refine hgr.out.mono ?_); rintro e w1 ⟨rfl, dg, cap, hc1, hr1, hf1, hf2, hg1, hat1⟩)
  have hcell := HCELL.out
  have hgl := blk_lt hcell
  have hr0 := own_other HROW.out hg1 (Or.inr (fun e => own_ne HROW.out hcell (by decide) e.symm))
  have hba := below_alloc (Below.refl w1.heap.size w1) (.cells #[.int .u64 1, .int .i64 0, .int .i64 0, .int .i64 0, .int .i64 0] 73)
  have hW : Wr w (w1.alloc (.cells #[.int .u64 1, .int .i64 0, .int .i64 0, .int .i64 0, .int .i64 0] 73)) base g w1.heap.size dg cap (.slice (some ⟨dg, 0, none⟩) l.length cap) (.slice Ai n ci) il n cs #[.int .u64 1, .int .i64 0, .int .i64 0, .int .i64 0, .int .i64 0] l := by
    have hdl := own_Buf hr1
    obtain ⟨cur, hcur, _⟩ := hdl
    have hlow : Below base w w1 := (Below.refl base w).grown hg1 hbase (fun k hk => by injection hk with hk; rw [← hk]; exact HB.out.at_)
    exact ⟨(hba.block g (Nat.lt_of_lt_of_le hgl hg1.size)).trans hc1, blk_new w1 _, pw_own_below hr0 hba, (own_Buf hr1).below hba, below_then hlow (Nat.le_trans hbase hg1.size) hba, Nat.ne_of_lt (Nat.lt_of_lt_of_le hgl hg1.size), fun e => by rw [← e, hc1] at hcur; simp at hcur, Nat.ne_of_gt (blk_lt hcur), own_far hr0 (Nat.le_refl _), HB.out.at_, Nat.le_trans hbase hg1.size, (by
      rcases hr1.2 with ⟨q, _⟩ | ⟨g', c', cur', q, q2, _⟩
      · cases q
      · injection q with q _ _; injection q with q; injection q with q; rw [q]; exact q2), Nat.le_trans (Nat.le_trans hbase hg1.size) hba.size⟩
  have hX : w1.heap.size < (w1.alloc (.cells #[.int .u64 1, .int .i64 0, .int .i64 0, .int .i64 0, .int .i64 0] 73)).heap.size := by simp
  clear hcell hgl hr0 hba hc1 hr1 hg1 hat1 hgr
  generalize w1.alloc (.cells #[.int .u64 1, .int .i64 0, .int .i64 0, .int .i64 0, .int .i64 0] 73) = W1 at *
  generalize w1.heap.size = X at *
  have HW := Lib.hid hW
  rw [HLN.out] at hf1 hW
  have g0 := (blk_cell hW.cell 0).trans rfl
  obtain ⟨ov, hov⟩ := hW.buf.cell (i := ln) (by omega)
  have hfz := hW.buf.frozen ln
  clear hW
  obtain ⟨u, hu⟩ : ∃ u, u = (uvO kn).length := ⟨_, rfl⟩
  have hu1 : 1 ≤ u ∧ u ≤ 3 := by rw [hu]; exact HUL.out
  obtain ⟨s, hs⟩ : ∃ s, s = (uvO vn).length := ⟨_, rfl⟩
  have hs0 : 1 ≤ s ∧ s ≤ 3 := by rw [hs]; exact HVUL.out
  obtain ⟨M, hM⟩ : ∃ M, M = ln + (6 + kn + (5 + vn)) := ⟨_, rfl⟩
  have hs1 : ∀ W, (Instr.slice 22 (.slice (some ⟨dg, 0, none⟩) ln cap) none (some (.int .i64 ((ln : Int) + (6 + (kn : Int) + (5 + (vn : Int)))))) none).run Try.prog W = .ok (.slice (some ⟨dg, 0, none⟩) M cap) W := fun W => by
    have := upto_own (g := dg) (n := ln) (c := cap) (m := M) (by omega) W
    rwa [show ((M : Nat) : Int) = (ln : Int) + (6 + (kn : Int) + (5 + (vn : Int))) by omega] at this
  have hs2 : ∀ W, (Instr.slice 22 (.slice (some ⟨dg, 0, none⟩) M cap) (some (.int .i64 ((ln : Int) + 1))) none none).run Try.prog W = .ok (.slice (some ⟨dg, ln + 1, none⟩) (M - (ln + 1)) (cap - (ln + 1))) W := fun W => by
    have := cut_own (g := dg) (o := 0) (n := M) (c := cap) (m := ln + 1) (by omega) (by omega) W
    rwa [Nat.zero_add, show ((ln + 1 : Nat) : Int) = (ln : Int) + 1 by omega] at this
  have hs3 : ∀ W, (Instr.slice 22 (.slice (some ⟨dg, 0, none⟩) M cap) (some (.int .i64 ((ln : Int) + 1 + (u : Int)))) none none).run Try.prog W = .ok (.slice (some ⟨dg, ln + 1 + u, none⟩) (M - (ln + 1 + u)) (cap - (ln + 1 + u))) W := fun W => by
    have := cut_own (g := dg) (o := 0) (n := M) (c := cap) (m := ln + 1 + u) (by omega) (by omega) W
    rwa [Nat.zero_add, show ((ln + 1 + u : Nat) : Int) = (ln : Int) + 1 + (u : Int) by omega] at this
  have hs5 : ∀ W, (Instr.slice 22 (.slice (some ⟨dg, 0, none⟩) M cap) (some (.int .i64 ((ln : Int) + 1 + (u : Int) + (kn : Int)))) none none).run Try.prog W = .ok (.slice (some ⟨dg, ln + 1 + u + kn, none⟩) (M - (ln + 1 + u + kn)) (cap - (ln + 1 + u + kn))) W := fun W => by
    have := cut_own (g := dg) (o := 0) (n := M) (c := cap) (m := ln + 1 + u + kn) (by omega) (by omega) W
    rwa [Nat.zero_add, show ((ln + 1 + u + kn : Nat) : Int) = (ln : Int) + 1 + (u : Int) + (kn : Int) by omega] at this
  have hs6 : ∀ W, (Instr.slice 22 (.slice (some ⟨dg, 0, none⟩) M cap) (some (.int .i64 ((ln : Int) + 1 + (u : Int) + (kn : Int) + (s : Int)))) none none).run Try.prog W = .ok (.slice (some ⟨dg, ln + 1 + u + kn + s, none⟩) (M - (ln + 1 + u + kn + s)) (cap - (ln + 1 + u + kn + s))) W := fun W => by
    have := cut_own (g := dg) (o := 0) (n := M) (c := cap) (m := ln + 1 + u + kn + s) (by omega) (by omega) W
    rwa [Nat.zero_add, show ((ln + 1 + u + kn + s : Nat) : Int) = (ln : Int) + 1 + (u : Int) + (kn : Int) + (s : Int) by omega] at this
  have hs4 : ∀ W, (Instr.slice 22 (.slice (some ⟨dg, 0, none⟩) M cap) none (some (.int .i64 ((ln : Int) + 1 + (u : Int) + (kn : Int) + (s : Int) + (vn : Int)))) none).run Try.prog W = .ok (.slice (some ⟨dg, 0, none⟩) (ln + 1 + u + kn + s + vn) cap) W := fun W => by
    have := upto_own (g := dg) (n := M) (c := cap) (m := ln + 1 + u + kn + s + vn) (by omega) W
    rwa [show ((ln + 1 + u + kn + s + vn : Nat) : Int) = (ln : Int) + 1 + (u : Int) + (kn : Int) + (s : Int) + (vn : Int) by omega] at this
  have HU := Lib.hid hu
  have HSS := Lib.hid hs
  have HS := Lib.hid (show ln + 1 + (M - (ln + 1)) ≤ cap ∧ u ≤ M - (ln + 1) ∧ kn ≤ M - (ln + 1 + u) ∧ ln + 1 + u + kn ≤ cap ∧ (M - (ln + 1)) ≤ 140737488355328 from ⟨by omega, by omega, by omega, by omega, by omega⟩)
  have HS2 := Lib.hid (show ln + 1 + u + kn + (M - (ln + 1 + u + kn)) ≤ cap ∧ s ≤ M - (ln + 1 + u + kn) ∧ vn ≤ M - (ln + 1 + u + kn + s) ∧ ln + 1 + u + kn + s + vn ≤ cap ∧ (M - (ln + 1 + u + kn)) ≤ 140737488355328 from ⟨by omega, by omega, by omega, by omega, by omega⟩)
  have hM2 : ln < M := by omega
  have hf1 : M ≤ cap := by omega
  clear hu hs hM
  generalize M - (ln + 1) = m1 at *
  generalize M - (ln + 1 + u) = m2 at *
  generalize M - (ln + 1 + u + kn) = m3 at *
  generalize M - (ln + 1 + u + kn + s) = m4 at *
  generalize cap - (ln + 1) = c1 at *
  generalize cap - (ln + 1 + u) = c2 at *
  generalize cap - (ln + 1 + u + kn) = c3 at *
  generalize cap - (ln + 1 + u + kn + s) = c4 at *
  have HW2 := Lib.hid (HW.out.byte 1 (by rw [HLN.out]; omega))
  rw [HLN.out] at HW2
  have hpu : ∀ W, Buf W dg cap (l ++ [1]) → Hid (Calls Try.prog 39 #[.slice (some ⟨dg, ln + 1, none⟩) m1 c1, .int .u64 (kn : Int)] W fun e w' => e = .returned (.int .i64 (u : Int)) ∧ Hid (Buf w' dg cap (l ++ [1] ++ uvO kn)) ∧ Hid (W.grownBy w' (some dg))) := fun W hW => Lib.hid (by
    have e : (l ++ [(1 : Int)]).length = ln + 1 := by rw [List.length_append, HLN.out]; rfl
    have := PutUvarint_calls (c := c1) (m := m1) (x := kn) hW (by rw [← HU.out]; exact HS.out.2.1) (by rw [e]; exact HS.out.1) (by omega) HS.out.2.2.2.2
    rw [e, ← HU.out] at this
    exact this)
  have e2 : (l ++ [(1 : Int)] ++ uvO kn).length = ln + 1 + u := by rw [List.length_append, List.length_append, HLN.out, ← HU.out]; rfl
  have E2 := Lib.hid e2
  have e3 : (l ++ [(1 : Int)] ++ uvO kn ++ k).length = ln + 1 + u + kn := by rw [List.length_append, e2, HKN.out]
  have E3 := Lib.hid e3
  have e4 : (l ++ [(1 : Int)] ++ uvO kn ++ k ++ uvO vn).length = ln + 1 + u + kn + s := by rw [List.length_append, e3, ← HSS.out]
  have E4 := Lib.hid e4
  clear e2 e3 e4
  have hpv : ∀ W, Buf W dg cap (l ++ [1] ++ uvO kn ++ k) → Hid (Calls Try.prog 39 #[.slice (some ⟨dg, ln + 1 + u + kn, none⟩) m3 c3, .int .u64 (vn : Int)] W fun e w' => e = .returned (.int .i64 (s : Int)) ∧ Hid (Buf w' dg cap (l ++ [1] ++ uvO kn ++ k ++ uvO vn)) ∧ Hid (W.grownBy w' (some dg))) := fun W hW => Lib.hid (by
    have := PutUvarint_calls (c := c3) (m := m3) (x := vn) hW (by rw [← HSS.out]; exact HS2.out.2.1) (by rw [E3.out]; exact HS2.out.1) (by omega) HS2.out.2.2.2.2
    rw [E3.out, ← HSS.out] at this
    exact this)
  have hle := HS.out.2.2.1
  have hlc := HS.out.2.2.2.1
  have hle2 := HS2.out.2.2.1
  have hlc2 := HS2.out.2.2.2.1
  go_wp2_with (first
    | (go_at_call 39; (with_reducible refine (hpu _ HW2.out.buf).out.mono ?_); rintro e w3 ⟨rfl, hb3, hg3⟩; have HW3 := Lib.hid (HW2.out.fill hg3.out hb3.out); have x1 := (blk_cell HW3.out.box 1).trans rfl; have x2 := (blk_cell HW3.out.box 2).trans rfl; have f1 := blk_frozen HW3.out.box 1; have f2 := blk_frozen HW3.out.box 2)
    | ((with_reducible refine gate_builtin (b := .copy) (xs := #[.tmp 64, .tmp 65]) rfl ?_); have HW4 := Lib.hid ((HW3.out.setX 1 (.int .i64 ((ln : Int) + 1 + (u : Int)))).setX 2 (.int .i64 (kn : Int))); refine copy_Buf rfl (.tmp 64) (.tmp 65) rfl rfl rfl E2.out.symm HKN.out.symm HW4.out.buf (by have := (hCW _ HW4.out.low).out; rw [HKN.out]; exact this) (by rw [HKN.out]; exact hle) (by rw [E2.out, HKN.out]; exact hlc) ?_; intro w5 hb5 hg5; have HW5 := Lib.hid (HW4.out.fill hg5.out hb5.out))
    | (go_at_call 39; (with_reducible refine (hpv _ HW5.out.buf).out.mono ?_); rintro e w7 ⟨rfl, hb7, hg7⟩; have HW7 := Lib.hid (HW5.out.fill hg7.out hb7.out); have x3 := (blk_cell HW7.out.box 3).trans rfl; have x4 := (blk_cell HW7.out.box 4).trans rfl; have f3 := blk_frozen HW7.out.box 3; have f4 := blk_frozen HW7.out.box 4)
    | ((with_reducible refine gate_builtin (b := .copy) (xs := #[.tmp 87, .tmp 88]) rfl ?_); have HW8 := Lib.hid ((HW7.out.setX 3 (.int .i64 ((ln : Int) + 1 + (u : Int) + (kn : Int) + (s : Int)))).setX 4 (.int .i64 (vn : Int))); refine copy_Buf rfl (.tmp 87) (.tmp 88) rfl rfl rfl E4.out.symm HVN.out.symm HW8.out.buf (by have := (hCV _ HW8.out.low).out; rw [HVN.out]; exact this) (by rw [HVN.out]; exact hle2) (by rw [E4.out, HVN.out]; exact hlc2) ?_; intro w9 hb9 hg9; have HW9 := Lib.hid (HW8.out.fill hg9.out hb9.out); have y0 := (blk_cell HW9.out.cell 0).trans rfl; have z0 := blk_frozen HW9.out.cell 0))
  have HW6 := Lib.hid (HW9.out.setG (.slice (some ⟨dg, 0, none⟩) (ln + 1 + u + kn + s + vn) cap))
  have HX6 : Hid (Wr w (w9.setCell ⟨g, 0, none⟩ (.slice (some ⟨dg, 0, none⟩) (ln + 1 + u + kn + s + vn) cap)) base g X dg cap (.slice (some ⟨dg, 0, none⟩) (ln + 1 + u + kn + s + vn) cap) (.slice Ai n ci) il n cs #[.int .u64 1, .int .i64 ((ln : Int) + 1 + (u : Int)), .int .i64 (kn : Int), .int .i64 ((ln : Int) + 1 + (u : Int) + (kn : Int) + (s : Int)), .int .i64 (vn : Int)] (l ++ [1] ++ uvO kn ++ k ++ uvO vn ++ v)) := HW6
  clear y0 z0 x1 x2 f1 f2 x3 x4 f3 f4 hs1 hs2 hs3 hs4 hs5 hs6 hov hfz g0 hpu hpv
  generalize w9.setCell ⟨g, 0, none⟩ (.slice (some ⟨dg, 0, none⟩) (ln + 1 + u + kn + s + vn) cap) = W6 at *
  have a1 := (blk_cell HX6.out.cell 1).trans rfl
  have x0 := (blk_cell HX6.out.box 0).trans rfl
  have x1 := (blk_cell HX6.out.box 1).trans rfl
  have x2 := (blk_cell HX6.out.box 2).trans rfl
  have x3 := (blk_cell HX6.out.box 3).trans rfl
  have x4 := (blk_cell HX6.out.box 4).trans rfl
  simp only [List.getElem?_toArray, List.getElem?_cons_zero, List.getElem?_cons_succ] at a1 x0 x1 x2 x3 x4
  have hg6 := blk_lt HX6.out.cell
  have hx6 := blk_lt HX6.out.box
  go_cut [] (fun wc => ∃ (vi' : Value) (cs' : List Value), Hid (Wr w wc base g X dg cap (.slice (some ⟨dg, 0, none⟩) (ln + 1 + u + kn + s + vn) cap) vi' il (n + 1) cs' #[.int .u64 1, .int .i64 ((ln : Int) + 1 + (u : Int)), .int .i64 (kn : Int), .int .i64 ((ln : Int) + 1 + (u : Int) + (kn : Int) + (s : Int)), .int .i64 (vn : Int)] (l ++ [1] ++ uvO kn ++ k ++ uvO vn ++ v)))
  case first =>
    rename_i J K' hJ hK
    go_region_law
      (first
        | (refine step_append_cells (W := W6.drew) base rfl (.tmp 101) (.tmp 103) 43 73 _ 5 40 rfl Try.underlying43 info_ix rfl (by decide) (by decide) (.slice Ai n ci) n cs [.int .u64 1, .int .i64 ((ln : Int) + 1 + (u : Int)), .int .i64 (kn : Int), .int .i64 ((ln : Int) + 1 + (u : Int) + (kn : Int) + (s : Int)), .int .i64 (vn : Int)] rfl rfl rfl (by simp [Value.oneCell']) HX6.out.row.drew HX6.out.low.drew HX6.out.bw (by omega) ?_; intro v2 w2 hr2 hb2 hg2 hat2; obtain ⟨A2, cc2, rfl⟩ := own_slice hr2; have HI := Lib.hid (HX6.out.index hr2 hg2 hat2); have hk2 := (hg2.block g hg6 (own_ne HX6.out.row HX6.out.cell (by decide))).trans HX6.out.cell; have q1 := (blk_cell hk2 1).trans rfl; have q2 := blk_frozen hk2 1))
    all_goals
      simp only [Exit.then]
      refine hK _ _ (Met.intro (hJ _ _ ?_))
      repeat apply Exists.intro
      refine ⟨?_, rfl⟩
      exact ⟨_, _, HI⟩
  case rest =>
    obtain ⟨vi', cs', HI⟩ := hcut
    clear a1 x0 x1 x2 x3 x4
    go_wp2
    refine still_tail 13 (by kernel_rfl) (by kernel_rfl) ?_
    intro W3 hW3
    have h3 : Wr w W3 base g X dg cap (.slice (some ⟨dg, 0, none⟩) (ln + 1 + u + kn + s + vn) cap) vi' il (n + 1) cs' #[.int .u64 1, .int .i64 ((ln : Int) + 1 + (u : Int)), .int .i64 (kn : Int), .int .i64 ((ln : Int) + 1 + (u : Int) + (kn : Int) + (s : Int)), .int .i64 (vn : Int)] (l ++ [1] ++ uvO kn ++ k ++ uvO vn ++ v) := by rw [hW3]; exact HI.out.drew
    clear hW3
    have y0 := (blk_cell h3.cell 2).trans rfl
    have y1 := blk_frozen h3.cell 2
    have y3 := (blk_cell h3.box 2).trans rfl
    have y4 := (blk_cell h3.box 4).trans rfl
    simp only [List.getElem?_toArray, List.getElem?_cons_zero, List.getElem?_cons_succ] at y0 y3 y4
    have H3 := Lib.hid h3
    clear h3
    simp only [List.take_succ_cons, List.take_zero, List.drop_succ_cons, List.drop_zero]
    repeat still_step
    refine wpStill_nil ?_
    go_wp2
    go_end0
    refine ⟨rfl, H3.out.low.setCell (p := ⟨g, 2, none⟩) H3.out.atG _, .slice (some ⟨dg, 0, none⟩) (ln + 1 + u + kn + s + vn) cap, vi', ⟨_, (blk_set H3.out.cell 2 _).trans rfl⟩, ?_, hf2, ⟨cs', own_setCell (p := ⟨g, 2, none⟩) H3.out.row (own_ne H3.out.row H3.out.cell (by decide)) _⟩, H3.out.atG⟩
    have hbf := fun v : Value => H3.out.buf.far (w1 := W3.setCell ⟨g, 2, none⟩ v) (Below.heap_setCell _ _ _ _ (Ne.symm H3.out.ne2))
    have eL : l ++ [1] ++ uvO kn ++ k ++ uvO vn ++ v = l ++ bwR (false, k, v) := by simp [bwR, szO, HKN.out, HVN.out]
    simp only [eL] at hbf
    have eN : (l ++ bwR (false, k, v)).length = ln + 1 + u + kn + s + vn := by rw [← eL]; simp [HLN.out, HKN.out, ← HU.out, HVN.out, ← HSS.out]; omega
    have h9 := fun v : Value => (hbf v).own H3.out.atD (by rw [eN]; exact hlc2) (by simp only [maxLen]; omega)
    simp only [eN] at h9
    rw [eN]
    exact h9 _

end Go.Proofs.Ytddjenmengipkaa.Bt
