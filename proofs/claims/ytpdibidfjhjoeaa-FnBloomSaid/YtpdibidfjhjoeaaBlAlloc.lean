/- util.Buffer: what a fresh one gives out; its bytes. -/
import Derived.Test.YtpdibidfjhjoeaaBlBuf
namespace Go.Proofs.Ytpdibidfjhjoeaa.Bl
open Go.RowKit Go.Proofs.YtpdibidfjhjoeaaW.PrintWords Go.Proofs.YtpdibidfjhjoeaaW.PrintMore Go.Proofs.Ytpdibidfjhjoeaa.Cmp
set_option linter.unusedVariables false

/-- a buffer whose bytes lie at (g, o): in its own block, or in one of their own -/
structure BufS (w : World) (b g o n c : Nat) (L : List Int) : Prop where
  blk : ∃ cs, w.heap[b]? = some (.cells cs 39 (0, 0)) ∧ cs[0]? = some (.slice (some ⟨g, o, none⟩) n c) ∧ cs[1]? = some (.int .i64 0)
  row : ∃ cs t, w.heap[g]? = some (.cells cs t (0, 0)) ∧ ∀ j, j < n → cs[o + j]? = some (.int .u8 (L.getD j 0))
  len : L.length = n
  cap : n ≤ c
  apart : g ≠ b ∨ (g = b ∧ o = 2)

theorem BufS.cell0 {w : World} {b g o n c : Nat} {L : List Int} (h : BufS w b g o n c L) : w.cell? ⟨b, 0, none⟩ = some (.slice (some ⟨g, o, none⟩) n c) ∧ w.cell? ⟨b, 1, none⟩ = some (.int .i64 0) := by
  obtain ⟨cs, h1, h2, h3⟩ := h.blk
  exact ⟨(blk_cell h1 0).trans h2, (blk_cell h1 1).trans h3⟩

theorem BufS.at_ {w : World} {b g o n c : Nat} {L : List Int} (h : BufS w b g o n c L) (j : Nat) (hj : j < n) : w.cell? ⟨g, o + j, none⟩ = some (.int .u8 (L.getD j 0)) ∧ w.frozen? ⟨g, o + j, none⟩ = false := by
  obtain ⟨cs, t, h1, h2⟩ := h.row
  exact ⟨(blk_cell h1 _).trans (h2 j hj), blk_frozen h1 _⟩

theorem BufS.keep {w w1 : World} {b g o n c : Nat} {L : List Int} (h : BufS w b g o n c L) (hb : w1.heap[b]? = w.heap[b]?) (hg : w1.heap[g]? = w.heap[g]?) : BufS w1 b g o n c L := by
  obtain ⟨cs, h1, h2⟩ := h.blk
  obtain ⟨ds, t, h3, h4⟩ := h.row
  exact ⟨⟨cs, hb.trans h1, h2⟩, ⟨ds, t, hg.trans h3, h4⟩, h.len, h.cap, h.apart⟩

theorem BufS.drew {w : World} {b g o n c : Nat} {L : List Int} (h : BufS w b g o n c L) : BufS w.drew b g o n c L := h.keep rfl rfl

theorem BufS.below {w w1 : World} {b g o n c : Nat} {L : List Int} (h : BufS w b g o n c L) (hb : Below w.heap.size w w1) : BufS w1 b g o n c L := by
  obtain ⟨cs, h1, h2⟩ := h.blk
  obtain ⟨ds, t, h3, h4⟩ := h.row
  exact h.keep (hb.block b (blk_lt h1)) (hb.block g (blk_lt h3))

theorem BufS.lt {w : World} {b g o n c : Nat} {L : List Int} (h : BufS w b g o n c L) : b < w.heap.size ∧ g < w.heap.size := by
  obtain ⟨cs, h1, h2⟩ := h.blk
  obtain ⟨ds, t, h3, h4⟩ := h.row
  exact ⟨blk_lt h1, blk_lt h3⟩

theorem BufS.set {w : World} {b g o n c : Nat} {L : List Int} (h : BufS w b g o n c L) (i : Nat) (hi : i < n) (x : Int) : BufS (w.setCell ⟨g, o + i, none⟩ (.int .u8 x)) b g o n c (L.set i x) := by
  obtain ⟨cs, h1, h2, h3⟩ := h.blk
  obtain ⟨ds, t, h4, h5⟩ := h.row
  have hl := h.len
  have h6 := blk_set h4 (o + i) (.int .u8 x)
  have hrow : ∀ j, j < n → (ds.setIfInBounds (o + i) (.int .u8 x))[o + j]? = some (.int .u8 ((L.set i x).getD j 0)) := fun j hj => by
    rw [Array.getElem?_setIfInBounds]
    by_cases e : i = j
    · subst e
      have hlt : o + i < ds.size := by
        rcases Nat.lt_or_ge (o + i) ds.size with z | z
        · exact z
        · have := h5 i hi
          rw [Array.getElem?_eq_none z] at this
          cases this
      rw [if_pos rfl, if_pos hlt]
      simp [List.getD_eq_getElem?_getD, hl, hi]
    · rw [if_neg (by omega), h5 j hj]
      simp [List.getD_eq_getElem?_getD, List.getElem?_set_ne e]
  rcases h.apart with ha | ⟨rfl, rfl⟩
  · exact ⟨⟨cs, blk_far h1 (p := ⟨g, o + i, none⟩) (fun z => ha z.symm) _, h2, h3⟩, ⟨_, t, h6, hrow⟩, by simp [hl], h.cap, Or.inl ha⟩
  · have e2 : ds = cs := by rw [h1] at h4; injection h4 with h4; injection h4 with h4 _; exact h4.symm
    subst e2
    have et : t = 39 := by rw [h1] at h4; injection h4 with h4; injection h4 with _ h4; exact h4.symm
    subst et
    refine ⟨⟨_, h6, ?_, ?_⟩, ⟨_, _, h6, hrow⟩, by simp [hl], h.cap, Or.inr ⟨rfl, rfl⟩⟩
    · rw [Array.getElem?_setIfInBounds_ne (by omega)]; exact h2
    · rw [Array.getElem?_setIfInBounds_ne (by omega)]; exact h3

theorem made_at (n j : Nat) (hj : j < n) : (madeCells #[.int .u8 0] n)[0 + j]? = some (.int .u8 ((List.replicate n (0 : Int)).getD j 0)) := by
  have h := toList_madeCells_one (.int .u8 0) n
  have h2 := congrArg (fun l => l[j]?) h
  rw [Nat.zero_add, ← Array.getElem?_toList]
  refine h2.trans ?_
  simp [List.getD_eq_getElem?_getD, hj]

theorem zbuf_at (v : Value) (j : Nat) (hj : j < 64) : (zbuf.setIfInBounds 0 v)[2 + j]? = some (.int .u8 0) := by
  rw [Array.getElem?_setIfInBounds_ne (by omega)]
  unfold zbuf
  have e : (2 + j) - (#[Value.slice none 0 0, Value.int .i64 0] : Array Value).size = j := by simp
  rw [Array.getElem?_append_right (by simp), e, Array.getElem?_replicate, if_pos hj]

theorem zeros_at (n j : Nat) : (List.replicate n (0 : Int)).getD j 0 = 0 := by
  rw [List.getD_eq_getElem?_getD]
  rcases Nat.lt_or_ge j n with h | h
  · rw [List.getElem?_replicate, if_pos h]; rfl
  · rw [List.getElem?_eq_none (by simp; exact h)]; rfl

set_option maxHeartbeats 400000 in
set_option maxRecDepth 100000 in
theorem Alloc_calls {w : World} {b : Nat} {n : Nat} (hb : w.heap[b]? = some (.cells zbuf 39 (0, 0))) (h1 : 1 ≤ n) (h2 : n ≤ 4194304) :
    Calls Try.prog 45 #[.pointer (some ⟨b, 0, none⟩), .int .i64 n] w fun e w' => ∃ g o c, e = .returned (.slice (some ⟨g, o, none⟩) n c) ∧ BufS w' b g o n c (List.replicate n 0) ∧ b ≤ g ∧ Below b w w' := by
  have hG : Calls Try.prog 48 #[.pointer (some ⟨b, 0, none⟩), .int .i64 n] w fun e w' => e = .returned (.int .i64 0) ∧ ∃ g o c, BufS w' b g o n c (List.replicate n 0) ∧ b ≤ g ∧ Below b w w' := by
    by_cases h : n ≤ 64
    · refine (grow_small hb h1 h).mono ?_
      rintro e w' ⟨he, hk, hB⟩
      refine ⟨he, b, 2, 64, ⟨⟨_, hk, rfl, rfl⟩, ⟨_, _, hk, fun j hj => ?_⟩, by simp, h, Or.inr ⟨rfl, rfl⟩⟩, Nat.le_refl _, hB⟩
      rw [zbuf_at _ j (by omega), zeros_at]
    · refine (grow_big hb (by omega) h2).mono ?_
      rintro e w' ⟨he, q, hbq, hk, hq, hB⟩
      exact ⟨he, q, 0, n, ⟨⟨_, hk, rfl, rfl⟩, ⟨_, _, hq, fun j hj => made_at n j hj⟩, by simp, Nat.le_refl _, Or.inl (Nat.ne_of_gt hbq)⟩, Nat.le_of_lt hbq, hB⟩
  clear hb
  have hn : ¬ ((n : Int) < 0) := by omega
  go_enter Try.func45, Try.ntmps45
  go_wp2_with fail
  refine hG.mono ?_
  rintro e w1 ⟨rfl, g, o, c, hS, hg, hB⟩
  obtain ⟨c0, c1⟩ := hS.cell0
  have hc := hS.cap
  have ic : (n : Int) ≤ (c : Int) := by omega
  go_wp2
  go_ret
  exact ⟨g, o, c, rfl, hS, hg, hB⟩

end Go.Proofs.Ytpdibidfjhjoeaa.Bl
