/- Batches written: the buffer grown; bytes copied into it. -/
import Derived.Test.YtddjenmengipkaaBbPut
import Derived.Test.YtddjenmengipkaaBtImpl
import Derived.Laws.CopyOwn
namespace Go.Proofs.Ytddjenmengipkaa.Bt
open Go.RowKit Go.Proofs.YtddjenmengipkaaW.PrintWords Go.Proofs.YtddjenmengipkaaW.PrintMore Go.Proofs.Ytddjenmengipkaa.PFnBatchLoads Go.Proofs.Ytddjenmengipkaa.Cmp
set_option linter.unusedVariables false

theorem info_size : (Try.prog.info? 5).map (·.size) = some 1 := by kernel_rfl

theorem nums_one' (k : List Int) : ∀ v ∈ nums .u8 k, v.oneCell' = true := by
  intro v hv
  simp [nums] at hv
  obtain ⟨x, _, rfl⟩ := hv
  rfl

/-- copy(dst[len(l):], k) where there is room -/
theorem copy_Buf {w : World} {ops : Array Oper} {rest : List Oper} {o : Oper} {a : Act} {Q : Exit → Act → World → Prop} (hgd : o.guard = none) (d s : Operand)
    (ho : o.op = .call { callee := .builtin .copy, args := #[d, s], argTypes := #[22, 22] })
    {dg cap m c off c2 kn : Nat} {A : Option Addr} {l k : List Int} (hd : a.eval d = .slice (some ⟨dg, off, none⟩) m c) (hs : a.eval s = .slice A kn c2)
    (hoff : off = l.length) (hkn : kn = k.length) (hB : Buf w dg cap l) (hC : Kd.C (Kd.int .u8) w A k.length k) (hm : k.length ≤ m) (hcap : l.length + k.length ≤ cap)
    (h : ∀ w', Hid (Buf w' dg cap (l ++ k)) → Hid (w.grownBy w' (some dg)) → wpList Try.prog ops Q rest (a.put o.dst (.int .i64 (kn : Int))) w') :
    wpList Try.prog ops Q (o :: rest) a w := by
  subst hoff hkn
  by_cases h0 : k.length = 0
  · obtain rfl : k = [] := List.eq_nil_of_length_eq_zero h0
    refine wpList_copy_nothing hgd d s 22 22 ho 5 Try.underlying22 info_size _ _ _ _ _ _ hd hs (by simp) ?_
    exact h w (by rw [List.append_nil]; exact hB) (World.grownBy.refl _ _)
  · obtain ⟨q1, q2, q3⟩ := C_ints hC
    obtain ⟨ad, rfl, hc⟩ := q3 (by omega)
    obtain ⟨cur, b1, b2, b3⟩ := hB
    have hlen : (nums .u8 k).length = k.length := by simp [nums]
    refine wpList_copy_own hgd d s 22 22 ho 5 Try.underlying22 info_size dg l.length m c ad k.length c2 hd hs cur 5 b1 (nums .u8 k) (by rw [hlen]; exact (Nat.min_eq_left hm).symm) (fun j v hj => ?_) (by rw [hlen]; omega) (nums_one' k) ?_
    · simp [nums] at hj
      obtain ⟨y, hy, rfl⟩ := hj
      have hjl := (List.getElem?_eq_some_iff.1 hy).1
      rw [hc j hjl]
      simp [List.getD_eq_getElem?_getD, hy]
    · have hc2 : l.length ≤ cur.toList.length := by simp; omega
      have := h (w.setRow dg (cur.toList.take l.length ++ (nums .u8 k ++ cur.toList.drop (l.length + (nums .u8 k).length))).toArray) (Lib.hid ⟨_, setRow_heap w dg _ _ 5 _ b1, by simp [hlen]; omega, by
          rw [b3, ← List.append_assoc]
          have e : nums .u8 (l ++ k) = nums .u8 l ++ nums .u8 k := by simp [nums]
          rw [e]
          exact List.take_left' (by simp [nums])⟩) (Lib.hid ⟨rfl, rfl, rfl, by simp [World.setRow], fun j _ hj => setRow_other w dg j _ (fun e => hj (by rw [e]))⟩)
      rw [show goInt ((nums .u8 k).length : Int) = .int .i64 (k.length : Int) by rw [hlen]; rfl]
      exact this

theorem Buf.made (W : World) (cap : Nat) : Buf (W.alloc (.cells (madeCells #[.int .u8 0] cap) 5)) W.heap.size cap [] := ⟨_, blk_new W _, size_madeCells _ _, by simp [nums]⟩

theorem make_any (l c : Int) (h0 : 0 ≤ l) (hlc : l ≤ c) (hb : c ≤ 281474976710656) (W : World) : (Instr.makeSlice 22 (.int .i64 l) (.int .i64 c)).run Try.prog W = .ok (.slice (some ⟨W.heap.size, 0, none⟩) l.toNat c.toNat) (W.alloc (.cells (madeCells #[.int .u8 0] c.toNat) 5)) := by
  obtain ⟨i0, hi, hzz⟩ := Option.map_eq_some_iff.1 info_u8
  simp only [Prod.mk.injEq] at hzz
  have := run_make (P := Try.prog) W 22 5 i0 (.int .u8 0) Try.underlying22 hi hzz.1 .i64 .i64 l c h0 hlc (by rw [hzz.2.2]; omega) (by omega)
  rw [hzz.2.1, Nat.mul_one] at this
  exact this

theorem div_lo (q ni : Nat) : 0 ≤ (q : Int) / ((ni : Int) / 3000) := Int.ediv_nonneg (Int.natCast_nonneg _) (Int.ediv_nonneg (Int.natCast_nonneg _) (by decide))
theorem div_hi (q ni : Nat) : (q : Int) / ((ni : Int) / 3000) ≤ q := Int.ediv_le_self _ (Int.natCast_nonneg _)
theorem wrap_id (z : Int) (h0 : 0 ≤ z) (h1 : z ≤ 1099511627776) : wrap64 z = z := by unfold wrap64; omega
theorem make_more (q n : Nat) (z : Int) (h0 : 0 ≤ z) (h1 : z ≤ q) (hq : q ≤ 4294967296) (hn : n ≤ 4194304) : ∃ C : Nat, q + n ≤ C ∧ C ≤ 1099511627776 ∧ ∀ W : World, (Instr.makeSlice 22 (.int .i64 (q : Int)) (.int .i64 (wrap64 ((q : Int) + n + wrap64 z)))).run Try.prog W = .ok (.slice (some ⟨W.heap.size, 0, none⟩) q C) (W.alloc (.cells (madeCells #[.int .u8 0] C) 5)) := by
  obtain ⟨z, rfl⟩ := Int.eq_ofNat_of_zero_le h0
  have e1 : wrap64 (z : Int) = z := wrap_id _ h0 (by omega)
  have e2 : wrap64 ((q : Int) + n + z) = ((q + n + z : Nat) : Int) := by rw [wrap_id _ (by omega) (by omega)]; omega
  refine ⟨q + n + z, by omega, by omega, fun W => ?_⟩
  have := make_any (q : Int) ((q + n + z : Nat) : Int) (by omega) (by omega) (by omega) W
  rw [Int.toNat_natCast, Int.toNat_natCast] at this
  rw [e1, e2]
  exact this
theorem make_twice (q n : Nat) (hq : q ≤ 4294967296) (hn : n ≤ 4194304) : ∃ C : Nat, q + n ≤ C ∧ C ≤ 1099511627776 ∧ ∀ W : World, (Instr.makeSlice 22 (.int .i64 (q : Int)) (.int .i64 ((q : Int) + n + q))).run Try.prog W = .ok (.slice (some ⟨W.heap.size, 0, none⟩) q C) (W.alloc (.cells (madeCells #[.int .u8 0] C) 5)) := by
  refine ⟨q + n + q, by omega, by omega, fun W => ?_⟩
  have := make_any (q : Int) ((q + n + q : Nat) : Int) (by omega) (by omega) (by omega) W
  rw [Int.toNat_natCast, Int.toNat_natCast, show ((q + n + q : Nat) : Int) = (q : Int) + n + q by omega] at this
  exact this

def capOf : Value → Nat
  | .slice _ _ c => c
  | _ => 0

def GrowTold (base g : Nat) (vd vi : Value) (il : Int) (l : List Int) (n : Nat) (w : World) (e : Ending) (w' : World) : Prop := e = .returned (.tuple #[]) ∧ ∃ dg cap : Nat, w'.heap[g]? = some (.cells #[.slice (some ⟨dg, 0, none⟩) l.length cap, vi, .int .i64 il] 45 (0, 0)) ∧ w'.ownsRow base 5 1 (.slice (some ⟨dg, 0, none⟩) l.length cap) l.length (nums .u8 l) ∧ l.length + n ≤ cap ∧ cap ≤ 1099511627776 ∧ w.grownBy w' (some g) ∧ (w.heap.size ≤ dg ∨ vd.ownBlock = some dg)

set_option maxHeartbeats 1600000 in
set_option maxRecDepth 100000 in
theorem grow_calls {w : World} {base g ni ci n : Nat} {vd : Value} {Ai : Option Addr} {il : Int} {l : List Int} (hg : w.heap[g]? = some (.cells #[vd, .slice Ai ni ci, .int .i64 il] 45 (0, 0))) (hrow : w.ownsRow base 5 1 vd l.length (nums .u8 l)) (hbase : base ≤ w.heap.size) (hn1 : 1 ≤ n) (hn : n ≤ 4194304) (hvc : capOf vd ≤ 1099511627776) (hl : l.length ≤ 4294967296) (hni : ni ≤ 4294967296) :
    Calls Try.prog 38 #[.pointer (some ⟨g, 0, none⟩), .int .i64 (n : Int)] w (GrowTold base g vd (.slice Ai ni ci) il l n w) := by
  obtain ⟨A, c, rfl, hC, hlc⟩ := own_C hrow
  have e0 : w.cell? ⟨g, 0, none⟩ = some (.slice A l.length c) := (blk_cell hg 0).trans rfl
  have e1 : w.cell? ⟨g, 1, none⟩ = some (.slice Ai ni ci) := (blk_cell hg 1).trans rfl
  have hc40 : c ≤ 1099511627776 := hvc
  clear hvc
  have HG := Lib.hid hg
  have HR := Lib.hid hrow
  have HC := Lib.hid hC
  have hlt := blk_lt hg
  clear hg hrow hC
  generalize hq : l.length = q at *
  have HQ := Lib.hid hq
  clear hq
  by_cases hcap : q + n ≤ c
  · have hno : ¬ (c : Int) - (q : Int) < (n : Int) := by omega
    go_enter Try.func38, Try.ntmps38
    go_wp2
    go_end0
    obtain ⟨dg, rfl⟩ : ∃ dg, A = some ⟨dg, 0, none⟩ := by
      rcases HR.out.2 with ⟨q1, _⟩ | ⟨g', cap, cur, q1, _⟩
      · injection q1 with _ _ q3; omega
      · injection q1 with q1 _ _; exact ⟨g', q1⟩
    exact ⟨rfl, dg, c, by rw [HQ.out]; exact HG.out, by rw [HQ.out]; exact HR.out, by rw [HQ.out]; exact hcap, hc40, World.grownBy.refl _ _, Or.inr rfl⟩
  · have hyes : (c : Int) - (q : Int) < (n : Int) := by omega
    have hq0 : (0 : Int) ≤ (q : Int) := by omega
    obtain ⟨C, hC1, hC2, hmk⟩ : ∃ C : Nat, q + n ≤ C ∧ C ≤ 1099511627776 ∧ ∀ W : World, (Instr.makeSlice 22 (.int .i64 (q : Int)) (.int .i64 (if 3000 < ni then wrap64 ((q : Int) + n + wrap64 ((q : Int) / ((ni : Int) / 3000))) else (q : Int) + n + q))).run Try.prog W = .ok (.slice (some ⟨W.heap.size, 0, none⟩) q C) (W.alloc (.cells (madeCells #[.int .u8 0] C) 5)) := by
      by_cases h3 : 3000 < ni
      · simp only [if_pos h3]
        exact make_more q n _ (div_lo q ni) (div_hi q ni) hl hn
      · simp only [if_neg h3]
        exact make_twice q n hl hn
    have HC12 := Lib.hid (And.intro hC1 hC2)
    clear hC1 hC2
    by_cases h3 : 3000 < ni
    · have h3' : (3000 : Int) < (ni : Int) := by omega
      rw [if_pos h3] at hmk
      go_enter Try.func38, Try.ntmps38
      have hk0 := Lib.hid (HG.out)
      go_wp2_with (refine copy_Buf rfl (.tmp 42) (.tmp 46) rfl rfl rfl rfl HQ.out.symm (Buf.made w C) (by rw [HQ.out]; exact Kd.C_alloc HC.out _) (by rw [HQ.out]; exact Nat.le_refl _) (by rw [HQ.out]; have := HC12.out.1; simp; omega) ?_; intro w3 hb3 hg3; have hk3 := Lib.hid ((hg3.out.block g (by simp; omega) (by simp; omega)).trans ((below_alloc (Below.refl w.heap.size w) (.cells (madeCells #[.int .u8 0] C) 5)).block g hlt |>.trans HG.out)); have x0 := blk_cell hk3.out 0; have x1 := blk_frozen hk3.out 0; simp only [List.getElem?_toArray, List.getElem?_cons_zero] at x0)
      go_end0
      refine ⟨rfl, w.heap.size, C, by rw [HQ.out]; exact (blk_set hk3.out 0 _).trans rfl, ?_, by rw [HQ.out]; exact HC12.out.1, HC12.out.2, ?_, Or.inl (Nat.le_refl _)⟩
      · have hb4 := (hb3.out.far (w1 := w3.setCell ⟨g, 0, none⟩ (.slice (some ⟨w.heap.size, 0, none⟩) q C)) (Below.heap_setCell _ _ _ _ (Nat.ne_of_gt hlt)))
        rw [List.nil_append] at hb4
        exact hb4.own hbase (by rw [HQ.out]; have := HC12.out.1; omega) (by have := HC12.out.2; simp only [maxLen]; omega)
      · have h1 := (grown_of_below (below_alloc (Below.refl w.heap.size w) (.cells (madeCells #[.int .u8 0] C) 5)) (some g))
        have h2 : w.grownBy w3 (some g) := ⟨hg3.out.os, hg3.out.tape, hg3.out.output, Nat.le_trans h1.size hg3.out.size, fun k hk hne => (hg3.out.block k (Nat.lt_of_lt_of_le hk h1.size) (fun e => by injection e with e; omega)).trans (h1.block k hk hne)⟩
        exact h2.trans (grown_set _ _ _ _)
    · have h3' : ¬ (3000 : Int) < (ni : Int) := by omega
      rw [if_neg h3] at hmk
      go_enter Try.func38, Try.ntmps38
      have hk0 := Lib.hid (HG.out)
      go_wp2_with (refine copy_Buf rfl (.tmp 42) (.tmp 46) rfl rfl rfl rfl HQ.out.symm (Buf.made w C) (by rw [HQ.out]; exact Kd.C_alloc HC.out _) (by rw [HQ.out]; exact Nat.le_refl _) (by rw [HQ.out]; have := HC12.out.1; simp; omega) ?_; intro w3 hb3 hg3; have hk3 := Lib.hid ((hg3.out.block g (by simp; omega) (by simp; omega)).trans ((below_alloc (Below.refl w.heap.size w) (.cells (madeCells #[.int .u8 0] C) 5)).block g hlt |>.trans HG.out)); have x0 := blk_cell hk3.out 0; have x1 := blk_frozen hk3.out 0; simp only [List.getElem?_toArray, List.getElem?_cons_zero] at x0)
      go_end0
      refine ⟨rfl, w.heap.size, C, by rw [HQ.out]; exact (blk_set hk3.out 0 _).trans rfl, ?_, by rw [HQ.out]; exact HC12.out.1, HC12.out.2, ?_, Or.inl (Nat.le_refl _)⟩
      · have hb4 := (hb3.out.far (w1 := w3.setCell ⟨g, 0, none⟩ (.slice (some ⟨w.heap.size, 0, none⟩) q C)) (Below.heap_setCell _ _ _ _ (Nat.ne_of_gt hlt)))
        rw [List.nil_append] at hb4
        exact hb4.own hbase (by rw [HQ.out]; have := HC12.out.1; omega) (by have := HC12.out.2; simp only [maxLen]; omega)
      · have h1 := (grown_of_below (below_alloc (Below.refl w.heap.size w) (.cells (madeCells #[.int .u8 0] C) 5)) (some g))
        have h2 : w.grownBy w3 (some g) := ⟨hg3.out.os, hg3.out.tape, hg3.out.output, Nat.le_trans h1.size hg3.out.size, fun k hk hne => (hg3.out.block k (Nat.lt_of_lt_of_le hk h1.size) (fun e => by injection e with e; omega)).trans (h1.block k hk hne)⟩
        exact h2.trans (grown_set _ _ _ _)

end Go.Proofs.Ytddjenmengipkaa.Bt
