/- impl's collector of records: Put. -/
import Derived.Test.YtddjenmengipkaaBtRep
namespace Go.Proofs.Ytddjenmengipkaa.Bt
open Go.RowKit Go.Proofs.YtddjenmengipkaaW.PrintWords Go.Proofs.YtddjenmengipkaaW.PrintMore Go.Proofs.Ytddjenmengipkaa.PFnBatchLoads Go.Proofs.Ytddjenmengipkaa.Cmp
set_option linter.unusedVariables false

theorem own_empty {W : World} {base g : Nat} {e : TypeId} (h : W.heap[g]? = some (.cells #[] e (0, 0))) (hb : base ≤ g) : W.ownsRow base e 1 (.slice (some ⟨g, 0, none⟩) 0 0) ([] : List Int).length (nums .u8 []) := by
  refine ⟨by simp [nums], Or.inr ⟨g, 0, #[], rfl, hb, h, Nat.le_refl _, by decide, by simp, by simp [nums]⟩⟩

/-- append([]byte{}, ys...) inside a drawn region -/
theorem copy_step {P : Program} {ops : Array Oper} {o : Oper} {a : Act} {Q : Exit → Act → World → Prop} {Kc : Act → World → Prop} {w W : World} {g : Nat}
    (hw : Region.wanted o (yielded ops a.tmps) = true) (s x : Operand) (t e : TypeId)
    (ho : o.op = .call { callee := .builtin .append, args := #[s, x], argTypes := #[t, t] })
    (ht : P.underlying t = some (.slice e)) (hinfo : (P.info? e).map (fun i => (i.zero, i.size, i.bytes)) = some (some (.int .u8 0), 1, 1))
    (ys : List Int) (A : Option Addr) (m c : Nat) (hs : a.eval s = .slice (some ⟨g, 0, none⟩) 0 0) (hx : a.eval x = .slice A m c)
    (hg : W.heap[g]? = some (.cells #[] e (0, 0))) (hgb : w.heap.size ≤ g) (HR : Kd.C (Kd.int .u8) w A m ys) (HB : Below w.heap.size w W) (hl : m ≤ 4294967296)
    (h : ∀ A1 c1 w1, CutB w1 (fun b => w.heap.size ≤ b ∧ b < w1.heap.size ∧ (b = g ∨ W.heap.size ≤ b)) (.slice A1 ys.length c1) ys → Below w.heap.size w w1 → W.grownBy w1 (some g) → Kc (a.put o.dst (.slice A1 ys.length c1)) w1) :
    if Region.wanted o (yielded ops a.tmps) = true then Oper.wp P o a W Kc Q else Kc (a.put o.dst undef) W := by
  refine append_row_step w.heap.size hw s x t e ho ht hinfo _ [] ys A m c hs hx (own_empty hg hgb) (Kd.C_below HR HB) HB HB.size (by simp; omega) ?_
  intro v1 w1 ho1 hb1 hg1 hat1
  have hc := own_CB (l := ys) ho1
  obtain ⟨A1, c1, rfl, h1, h2, h3⟩ := hc
  refine h A1 c1 w1 ⟨A1, c1, rfl, h1, h2, fun b hb => ⟨(h3 b hb).1, (h3 b hb).2, ?_⟩⟩ hb1 hg1
  subst hb
  have e1 : (Value.slice (some b) ys.length c1).ownBlock = some b.block := by
    rcases ho1.2 with ⟨q1, q2⟩ | ⟨g', cap, cur, q1, q2⟩
    · cases q1
    · injection q1 with q1 _ _
      injection q1 with q1
      subst q1
      rfl
  rcases hat1 with q | ⟨b', q, hle⟩
  · rw [e1] at q
    simp [Value.ownBlock] at q
    exact Or.inl q
  · rw [e1] at q
    injection q with q
    exact Or.inr (by rw [q]; exact hle)

theorem CutB.two {B : Nat} {w1 W2 w2 : World} {g1 n1 g2 : Nat} {v : Value} {l : List Int} (h : CutB w1 (fun b => B ≤ b ∧ b < w1.heap.size ∧ (b = g1 ∨ n1 ≤ b)) v l) (hW : W2 = w1 ∨ ∃ o, W2 = w1.alloc o) (hg : W2.grownBy w2 (some g2)) (hne : ∀ b, B ≤ b → b < w1.heap.size → (b = g1 ∨ n1 ≤ b) → b ≠ g2) : CutB w2 (fun b => B ≤ b ∧ b < w2.heap.size) v l := by
  have e : ∀ b, b < w1.heap.size → W2.heap[b]? = w1.heap[b]? ∧ b < W2.heap.size := by
    intro b hb
    rcases hW with rfl | ⟨o, rfl⟩
    · exact ⟨rfl, hb⟩
    · exact ⟨(below_alloc (Below.refl w1.heap.size w1) o).block b hb, by simp; omega⟩
  refine h.imp (fun b q => ⟨(hg.block b (e b q.2.1).2 ?_).trans (e b q.2.1).1, q.1, Nat.lt_of_lt_of_le (e b q.2.1).2 hg.size⟩)
  intro e2
  injection e2 with e2
  exact hne b q.1 q.2.1 q.2.2 e2

theorem empty_kept {W w1 : World} {g1 g2 : Nat} {cs : Array Value} {e : TypeId} (hg : W.grownBy w1 (some g1)) (h : W.heap[g2]? = some (.cells cs e (0, 0))) (hne : g2 ≠ g1) : w1.heap[g2]? = some (.cells cs e (0, 0)) :=
  (hg.block g2 (blk_lt h) (fun e => hne (by injection e))).trans h

set_option maxHeartbeats 16000000 in
set_option maxRecDepth 100000 in
theorem Put_calls {w : World} {base r : Nat} {vl : Value} {rs : List Rec} {A : Option Addr} {c : Nat} {k : List Int} {B : Option Addr} {d : Nat} {v : List Int} (hR : Rep w base r vl rs) (hbase : base ≤ w.heap.size) (hk : Kd.C (Kd.int .u8) w A k.length k) (hv : Kd.C (Kd.int .u8) w B v.length v) (hkl : k.length ≤ 4294967296) (hvl : v.length ≤ 4294967296) (hrl : rs.length ≤ 4294967296) :
    Calls Try.prog 59 #[.pointer (some ⟨r, 0, none⟩), .slice A k.length c, .slice B v.length d] w fun e w' => e = .returned (.tuple #[]) ∧ Below base w w' ∧ ∃ vl', Rep w' base r vl' (rs ++ [(false, k, v)]) := by
  have HR := Lib.hid hR
  have HK := Lib.hid hk
  have HV := Lib.hid hv
  have e0 : w.cell? ⟨r, 0, none⟩ = some vl := (blk_cell hR.cell 0).trans rfl
  have hlt := blk_lt hR.cell
  have hne : w.heap.size ≠ r := Nat.ne_of_gt hlt
  have hq1 := below_alloc (Below.refl w.heap.size w) (.cells #[] 5)
  have hq2 := below_alloc (Below.refl (w.alloc (.cells #[] 5)).heap.size (w.alloc (.cells #[] 5))) (.cells #[] 5)
  have E1 : Hid ((w.alloc (.cells #[] 5)).drew.heap[w.heap.size]? = some (.cells #[] 5 (0, 0))) := blk_new w _
  have E2 : Hid (((w.alloc (.cells #[] 5)).alloc (.cells #[] 5)).drew.heap[w.heap.size]? = some (.cells #[] 5 (0, 0))) := (hq2.block w.heap.size (by simp)).trans (blk_new w _)
  have E3 : Hid (((w.alloc (.cells #[] 5)).alloc (.cells #[] 5)).drew.heap[w.heap.size + 1]? = some (.cells #[] 5 (0, 0))) := by
    have := blk_new (w.alloc (.cells #[] 5)) (.cells #[] 5)
    rw [World.size_alloc] at this
    exact this
  have B1 : Hid (Below w.heap.size w (w.alloc (.cells #[] 5)).drew) := Lib.hid hq1.drew
  have B2 : Hid (Below w.heap.size w ((w.alloc (.cells #[] 5)).alloc (.cells #[] 5)).drew) := Lib.hid (below_then hq1 hq1.size hq2).drew
  have N1 := Lib.hid (show w.heap.size ≠ w.heap.size + 1 by omega)
  have N2 := Lib.hid (show w.heap.size + 1 ≠ w.heap.size by omega)
  obtain ⟨cs, hrow, hrec⟩ := hR.recs
  have HROW := Lib.hid hrow
  have HREC := Lib.hid hrec
  clear hR hk hv hrow hrec hq1 hq2
  generalize hn : k.length = n at *
  generalize hm : v.length = m at *
  have HN := Lib.hid hn
  have HM := Lib.hid hm
  clear hn hm
  go_enter Try.func59, Try.ntmps59
  go_wp2
  go_region_law
    (first
    | (refine copy_step rfl (.tmp 11) (.tmp 12) 22 5 rfl Try.underlying22 info_u8 k _ _ _ rfl rfl (by first | exact E1.out | exact E2.out | exact E3.out) (by simp) HK.out (by first | exact B1.out | exact B2.out) hkl ?_; intro A1 c1 w1 hc1 hb1 hg1; have ec1 : w1.cell? ⟨r, 0, none⟩ = some vl := (hb1.cell (p := ⟨r, 0, none⟩) hlt).trans e0; have hlt1 : r < w1.heap.size := Nat.lt_of_lt_of_le hlt hb1.size)
    | (refine copy_step rfl (.tmp 14) (.tmp 15) 22 5 rfl Try.underlying22 info_u8 v _ _ _ rfl rfl (by first | exact empty_kept hg1 E2.out N1.out | exact empty_kept hg1 E3.out N2.out | exact blk_new w1 _) (by first | exact hb1.size | simp) HV.out (by first | exact hb1 | exact below_alloc' hb1 _) hvl ?_; intro A2 c2 w2 hc2 hb2 hg2; have hc1' := hc1.two (w2 := w2) (by first | exact Or.inl rfl | exact Or.inr ⟨_, rfl⟩) hg2 (by intro b q1 q2 q3; simp at q1 q2 q3 ⊢; omega); have hc2' := hc2.imp (w' := w2) (ok' := fun b => w.heap.size ≤ b ∧ b < w2.heap.size) (fun b q => ⟨rfl, q.1, q.2.1⟩); have hKV := And.intro hc1' hc2'; have ec2 : w2.cell? ⟨r, 0, none⟩ = some vl := (hb2.cell (p := ⟨r, 0, none⟩) hlt).trans e0; have hlt2 : r < w2.heap.size := Nat.lt_of_lt_of_le hlt hb2.size)
    | (refine step_append_cells base rfl (.tmp 10) (.tmp 18) 27 38 _ 3 56 rfl Try.underlying27 info_irec rfl (by decide) (by decide) vl rs.length cs [.bool false, _, _] rfl rfl rfl (by simp [Value.oneCell']) (pw_own_below HROW.out hb2) (hb2.mono hbase) (Nat.le_trans hbase hb2.size) (by omega) ?_; intro v3 w3 hr3 hb3 hg3 hat3; obtain ⟨A3, c3, rfl⟩ := own_slice hr3; have hk3 := (hg3.block r hlt2 (own_ne HROW.out HR.out.cell (by decide))).trans ((hb2.block r hlt).trans HR.out.cell); have ec3 : w3.cell? ⟨r, 0, none⟩ = some vl := (blk_cell hk3 0).trans rfl; have ef3 := blk_frozen hk3 0))
  all_goals
    go_end0
    exact ⟨rfl, hb3.setCell (p := ⟨r, 0, none⟩) HR.out.at_ _, _, Rep.push HR.out.cell HR.out.at_ hbase HROW.out HREC.out hb2 hKV.1 hKV.2 hr3 hg3 hat3⟩

end Go.Proofs.Ytddjenmengipkaa.Bt
