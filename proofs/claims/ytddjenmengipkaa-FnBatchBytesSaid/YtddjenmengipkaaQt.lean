/- A region that draws its order: its head reads, and calls what only lays new blocks; its tail, one operation behind the other, does what it likes. One walk of the text's order serves. -/
import Derived.StillTail
import Derived.Deep.Quiet
import Derived.Lib.QuietBelow
namespace Go.Proofs.Ytddjenmengipkaa.Qt
open Go Go.Sort Go.RowKit

section
variable {P : Program} {ops : Array Oper} {md : Region.Mode} {C : World → Prop}

/-- n operations of the head, in whatever order; L: what holds when they are done -/
def heads (P : Program) (md : Region.Mode) (ops : Array Oper) (C : World → Prop) (n : Nat) (L : Array Bool → Act → Prop) : Nat → Array Bool → Act → Prop
  | 0, s, a => L s a
  | f + 1, s, a => Region.ready md ops s ≠ [] ∧ ∀ i ∈ Region.ready md ops s, i < n ∧ qOp P ops C i (heads P md ops C n L f (s.setIfInBounds i true)) a

theorem any_of_heads {n g : Nat} {L : Array Bool → Act → Prop} {Q : Exit → Act → World → Prop} (hL : ∀ s a w, C w → L s a → wpAny P md ops Q g s a w) (f : Nat) :
    ∀ s a w, C w → heads P md ops C n L f s a → wpAny P md ops Q (f + g) s a w := by
  induction f with
  | zero => intro s a w hw h; rw [Nat.zero_add]; exact hL s a w hw h
  | succ f ih =>
    intro s a w hw h
    have e : f + 1 + g = (f + g) + 1 := by omega
    rw [e]
    refine ⟨fun h0 => absurd h0 h.1, fun i hi => ?_⟩
    exact wpOp_of_qOp hw (fun a' w' hw' h' => ih _ a' w' hw' h') (h.2 i hi).2

theorem heads_first {n i : Nat} {oi : Oper} {v : Value} {L : Array Bool → Act → Prop} (hi : ops[i]? = some oi) (hsel : ∀ (j : Nat) (o : Oper) cs b, ops[j]? = some o → o.op ≠ .select cs b)
    (hs : Region.sinkB md ops n = true) (hc : Region.chainB md ops n = true) (hn : n < ops.size) (hin : i < n) (hdone : ∀ s a, L s a → ∀ j ∈ Region.ready md ops s, n ≤ j) (f : Nat) :
    ∀ (s : Array Bool) (a : Act), HeadInv md ops n s →
      (∀ j oj, ops[j]? = some oj → j ≠ i → s.getD j true = false → (∀ e ∈ oj.after, Region.binds md e = true → e.on ≠ i) → oi.apart ops oj = true) →
      i ∈ Region.ready md ops s → YieldsIn P ops C oi v a →
      heads P md ops C n L f (s.setIfInBounds i true) (a.put oi.dst v) → heads P md ops C n L (f + 1) s a := by
  induction f with
  | zero =>
    intro s a inv _ hr hy H
    have hun := (mem_ready.1 hr).1
    refine ⟨(fun h => by rw [h] at hr; cases hr), fun j hj => ?_⟩
    have hjn : j < n := Nat.lt_of_not_le (fun h => tail_waits hs hc hn inv _ i rfl hin hun j h hj)
    refine ⟨hjn, ?_⟩
    by_cases hji : j = i
    · rw [hji]; exact hy.qOp hi H
    · have := hdone _ _ H j (ready_mono hj hji)
      omega
  | succ f ih =>
    intro s a inv hfree hr hy H
    have hun := (mem_ready.1 hr).1
    refine ⟨(fun h => by rw [h] at hr; cases hr), fun j hj => ?_⟩
    have hjn : j < n := Nat.lt_of_not_le (fun h => tail_waits hs hc hn inv _ i rfl hin hun j h hj)
    refine ⟨hjn, ?_⟩
    by_cases hji : j = i
    · rw [hji]; exact hy.qOp hi H
    · have h1 := (H.2 j (ready_mono hj hji)).2
      obtain ⟨hjun, oj, hoj, hall⟩ := mem_ready.1 hj
      have hnot : ∀ e ∈ oj.after, Region.binds md e = true → e.on ≠ i := by
        intro e he hb heq
        have h2 := hall e he hb
        rw [heq, getD_both hun] at h2
        cases h2
      have h2 := qOp_put hoj (hfree j oj hoj hji hjun hnot) (fun cs b => hsel i oi cs b hi) (fun cs b => hsel j oj cs b hoj) hy h1
      refine qOp_mono (fun a' h3 => ih (s.setIfInBounds j true) a' (inv.set hj hjn) ?_ (ready_mono hr (Ne.symm hji)) h3.1 ?_) h2
      · intro k ok hk hki hun2 hno
        refine hfree k ok hk hki ?_ hno
        by_cases hjk : j = k
        · rw [← hjk]; exact hjun
        · rw [getD_set_ne true hjk] at hun2; exact hun2
      · rw [Array.setIfInBounds_comm _ _ hji]
        exact h3.2

theorem heads_lex {n g : Nat} {L : Act → Prop} (hsel : Region.noSelect ops = true) (hs : Region.sinkB md ops n = true) (hc : Region.chainB md ops n = true) (hn : n < ops.size) (l : List Oper) :
    ∀ (k : Nat) (s : Array Bool) (a : Act), (∀ j, j < l.length → l[j]? = ops[k + j]?) → k + l.length = n → HeadInv md ops n s →
    Region.lexHead md ops g l.length k s = true → wpQuiet P ops C L l a →
    heads P md ops C n (fun s' a' => Region.seqB md ops g n s' = true ∧ L a') l.length s a := by
  induction l with
  | nil =>
    intro k s a _ hk inv hB h
    have : k = n := by simpa using hk
    subst this
    exact ⟨by simpa [Region.lexHead] using hB, h⟩
  | cons o l ih =>
    intro k s a hl hk inv hB h
    have h0 : ops[k]? = some o := by simpa using (hl 0 (by simp)).symm
    simp only [List.length_cons, Region.lexHead, Bool.and_eq_true] at hB
    obtain ⟨⟨hr, hf⟩, hB'⟩ := hB
    have hkn : k < n := by simp only [List.length_cons] at hk; omega
    have hr' : k ∈ Region.ready md ops s := by simpa using hr
    have hst : qOp P ops C k (wpQuiet P ops C L l) a := by unfold qOp; simp only [h0]; exact h
    obtain ⟨v, hy, hK⟩ := yieldsIn_of_qOp h0 hst
    refine heads_first h0 (Region.noSelect_spec hsel) hs hc hn hkn (fun s' a' hL => seqB_ready hL.1) l.length s a inv (Region.free_spec h0 hf) hr' hy ?_
    refine ih (k + 1) _ _ (fun j hj => ?_) (by simp only [List.length_cons] at hk; omega) (inv.set hr' hkn) hB' hK
    have := hl (j + 1) (by simp; omega)
    simpa [Nat.add_assoc, Nat.add_comm 1 j] using this

/-- the head's walk, then the tail's -/
theorem region_quiet_tail {id : Nat} {Q : Exit → Act → World → Prop} {a : Act} {w : World} {l : List Oper} (n : Nat) (hm : P.follows .mixedOrders = true) (hB : Region.lexTailB .any l.toArray n = true) (hC : C { w with drawn := w.drawn + 1 })
    (h : wpQuiet P l.toArray C (fun a' => ∀ w', C w' → wpList P l.toArray Q (l.drop n) a' w') (l.take n) a) : (Code.region id l.toArray true).wp P Q a w := by
  simp only [Region.lexTailB, Bool.and_eq_true, decide_eq_true_eq] at hB
  obtain ⟨⟨⟨⟨hsel, hn⟩, hs⟩, hc⟩, hlex⟩ := hB
  have hn' : n < l.length := by simpa using hn
  have htl : (l.take n).length = n := by simp; omega
  have hdl : (l.drop n).length = l.toArray.size - n := by simp
  have inv0 : HeadInv .any l.toArray n (Array.replicate l.toArray.size false) :=
    ⟨by simp, (fun j oj _ hl => by rw [getD_replicate_false] at hl; cases hl), fun t _ ht => getD_in (by simpa using ht) (getD_replicate_false _ _)⟩
  have H := heads_lex (md := .any) (g := l.toArray.size - n) hsel hs hc hn (l.take n) 0 _ a (fun j hj => by
    have hj' : j < n := by rw [htl] at hj; exact hj
    simp [hj']) (by simpa using htl) inv0 (by rw [htl]; exact hlex) h
  refine wp_region_any hm ?_
  have := any_of_heads (Q := Q) (g := l.toArray.size - n) (fun s a' w' hw' hL => by
    have := wpAny_of_seq (md := .any) (Q' := Q) (l.drop n) n s a' w' (fun j => by simp [List.getElem?_drop]) (by rw [hdl]; exact hL.1) (hL.2 w' hw')
    rwa [hdl] at this) _ _ _ _ hC H
  rw [htl, show n + (l.toArray.size - n) = l.toArray.size by omega] at this
  exact this
end

/-- the class of the worlds behind w in which only new blocks lie -/
theorem below_tail {P : Program} {id : Nat} {Q : Exit → Act → World → Prop} {a : Act} {w : World} {l : List Oper} (n : Nat) (hm : P.follows .mixedOrders = true) (hB : Region.lexTailB .any l.toArray n = true)
    (h : wpQuiet P l.toArray (fun w' => ∃ p : Regrown, w' = grow (redrawn w p.d) p.os) (fun a' => ∀ w', Below w.heap.size w w' → wpList P l.toArray Q (l.drop n) a' w') (l.take n) a) : (Code.region id l.toArray true).wp P Q a w := by
  refine region_quiet_tail (C := fun w' => ∃ p : Regrown, w' = grow (redrawn w p.d) p.os) n hm hB ⟨⟨w.drawn + 1, #[]⟩, by rw [grow_empty]; rfl⟩ ?_
  have e : (fun a' : Act => ∀ w', (∃ p : Regrown, w' = grow (redrawn w p.d) p.os) → wpList P l.toArray Q (l.drop n) a' w') = (fun a' : Act => ∀ w', Below w.heap.size w w' → wpList P l.toArray Q (l.drop n) a' w') := by
    funext a'
    refine propext ⟨fun h w' hw' => h w' (regrown_of_below hw'), fun h w' hw' => ?_⟩
    obtain ⟨p, rfl⟩ := hw'
    exact h _ (below_regrown w p.d p.os)
  rw [e]
  exact h

end Go.Proofs.Ytddjenmengipkaa.Qt
