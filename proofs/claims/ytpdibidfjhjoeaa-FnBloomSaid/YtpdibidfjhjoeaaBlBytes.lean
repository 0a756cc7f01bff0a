/- What the reference's Before, Bytes and OrderLess (as printed) tell: the order of Cmp. -/
import Derived.Test.YtpdibidfjhjoeaaPFnBloomx1
import Derived.Test.YtpdibidfjhjoeaaCmp
namespace Go.Proofs.Ytpdibidfjhjoeaa.OrdersPure
open Go.RowKit Go.Proofs.YtpdibidfjhjoeaaW.PrintWords Go.Proofs.Ytpdibidfjhjoeaa.PFnBloom Go.Proofs.Ytpdibidfjhjoeaa.Cmp

theorem drop_rd (l : List Int) (i : Nat) (h : i < l.length) : l.drop i = rd l (i : Int) :: l.drop (i + 1) := by
  rw [List.drop_eq_getElem_cons h]
  simp [rd, List.getD_eq_getElem?_getD, h]

theorem wrap_up (i : Nat) (n : Nat) (h : i < n) (hn : n ≤ 9223372036854775807) : wrap64 ((i : Int) + 1) = ((i + 1 : Nat) : Int) := by
  unfold wrap64; omega

theorem before_l0 (l m : List Int) (hl : l.length ≤ 9223372036854775807) (d : Nat) : ∀ i : Nat, l.length - i = d → i ≤ l.length → i ≤ m.length → ∀ k, 2 * d + 2 ≤ k →
    spec_Before.l0 k l m (i : Int) = some (decide (cmpI (l.drop i) (m.drop i) < 0)) := by
  induction d with
  | zero =>
    intro i h1 h2 h3 k hk
    obtain ⟨k, rfl⟩ : ∃ q, k = q + 2 := ⟨k - 2, by omega⟩
    have e : l.drop i = [] := List.drop_eq_nil_of_le (by omega)
    simp only [spec_Before.l0]
    rw [if_neg (by omega)]
    simp only [spec_Before.j1]
    rw [if_neg (by simp), e]
    congr 1
    rw [decide_eq_decide, cmpI_nil_left]
    constructor
    · intro h hc
      have := congrArg List.length hc
      rw [List.length_drop] at this
      simp at this
      omega
    · intro h
      rcases Nat.lt_or_ge i m.length with c | c
      · omega
      · exact absurd (List.drop_eq_nil_of_le c) h
  | succ d ih =>
    intro i h1 h2 h3 k hk
    obtain ⟨k, rfl⟩ : ∃ q, k = q + 2 := ⟨k - 2, by omega⟩
    have hi : i < l.length := by omega
    simp only [spec_Before.l0]
    rw [if_pos (by omega)]
    simp only [spec_Before.j1]
    by_cases hm : i < m.length
    · rw [if_pos (by rw [decide_eq_true_iff]; omega), if_pos (by omega), if_pos (by omega), if_pos (by omega), drop_rd l i hi, drop_rd m i hm]
      by_cases he : rd l (i : Int) = rd m (i : Int)
      · rw [if_pos he, wrap_up i l.length hi hl, ih (i + 1) (by omega) (by omega) (by omega) k (by omega)]
        congr 1
        rw [decide_eq_decide, he]
        show _ ↔ (if rd m (i : Int) < rd m (i : Int) then (-1 : Int) else if rd m (i : Int) < rd m (i : Int) then 1 else cmpI (l.drop (i + 1)) (m.drop (i + 1))) < 0
        rw [if_neg (by omega), if_neg (by omega)]
      · rw [if_neg he]
        congr 1
        rw [decide_eq_decide]
        show _ ↔ (if rd l (i : Int) < rd m (i : Int) then (-1 : Int) else if rd m (i : Int) < rd l (i : Int) then 1 else cmpI (l.drop (i + 1)) (m.drop (i + 1))) < 0
        by_cases h : rd l (i : Int) < rd m (i : Int)
        · rw [if_pos h]; simp [h]
        · rw [if_neg h, if_pos (by omega)]; simp; omega
    · rw [if_neg (by simp; omega), drop_rd l i hi]
      have e : m.drop i = [] := List.drop_eq_nil_of_le (by omega)
      rw [e]
      congr 1
      rw [decide_eq_decide]
      constructor
      · intro h; omega
      · intro h; exact absurd h (cmpI_nil _)

theorem before (l m : List Int) (hl : l.length ≤ 9223372036854775807) (k : Nat) (hk : 2 * l.length + 2 ≤ k) : spec_Before.f k l m = some (decide (cmpI l m < 0)) := by
  have h := before_l0 l m hl l.length 0 (by omega) (by omega) (by omega) k hk
  simpa [spec_Before.f] using h

theorem bytes (l m : List Int) (hl : l.length ≤ 9223372036854775807) (hm : m.length ≤ 9223372036854775807) (k : Nat) (hk : 2 * l.length + 2 ≤ k) (hk2 : 2 * m.length + 2 ≤ k) :
    spec_Bytes.f k l m = some (decide (l = m)) := by
  unfold spec_Bytes.f
  rw [before l m hl k hk, before m l hm k hk2]
  simp only [Option.bind_some]
  have h1 := cmpI_swap l m
  have h2 := @cmpI_zero l m
  by_cases h : cmpI l m < 0
  · rw [if_pos (by simpa using h)]
    have : ¬ l = m := fun e => by rw [h2.2 e] at h; omega
    simp [this]
  · rw [if_neg (by simpa using h)]
    congr 1
    by_cases e : l = m
    · have := h2.2 e
      have g : ¬ cmpI m l < 0 := by omega
      simp [e, cmpI_refl]
    · have : ¬ cmpI l m = 0 := fun z => e (h2.1 z)
      have g : cmpI m l < 0 := by omega
      simp [e, g]

end Go.Proofs.Ytpdibidfjhjoeaa.OrdersPure
