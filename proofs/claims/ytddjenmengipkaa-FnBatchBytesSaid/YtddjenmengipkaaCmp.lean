/- Comparing rows of bytes, as plain lists of integers: an order of three values. Written for the seat Ytddjenmengipkaa. -/
import Derived.IntWalk
namespace Go.Proofs.Ytddjenmengipkaa.Cmp

/-- Every number of the list is a byte. -/
def Byt (l : List Int) : Prop := ∀ x ∈ l, 0 ≤ x ∧ x ≤ 255

/-- Byte by byte, then by length: -1, 0 or 1. -/
def cmpI : List Int → List Int → Int
  | [], [] => 0
  | [], _ :: _ => -1
  | _ :: _, [] => 1
  | a :: l, b :: m => if a < b then -1 else if b < a then 1 else cmpI l m

theorem cmpI_three : ∀ l m, cmpI l m = -1 ∨ cmpI l m = 0 ∨ cmpI l m = 1
  | [], [] => by simp [cmpI]
  | [], _ :: _ => by simp [cmpI]
  | _ :: _, [] => by simp [cmpI]
  | a :: l, b :: m => by
    unfold cmpI
    by_cases h : a < b
    · simp [h]
    · by_cases h2 : b < a
      · simp [h, h2]
      · rw [if_neg h, if_neg h2]; exact cmpI_three l m

theorem cmpI_swap : ∀ l m, cmpI m l = - cmpI l m
  | [], [] => by simp [cmpI]
  | [], _ :: _ => by simp [cmpI]
  | _ :: _, [] => by simp [cmpI]
  | a :: l, b :: m => by
    unfold cmpI
    by_cases h : a < b
    · have h2 : ¬ b < a := by omega
      simp [h, h2]
    · by_cases h2 : b < a
      · simp [h, h2]
      · rw [if_neg h, if_neg h2, if_neg h2, if_neg h]; exact cmpI_swap l m

theorem cmpI_refl : ∀ l, cmpI l l = 0
  | [] => rfl
  | a :: l => by
    unfold cmpI
    rw [if_neg (by omega), if_neg (by omega)]; exact cmpI_refl l

theorem cmpI_eq : ∀ l m, cmpI l m = 0 → l = m
  | [], [], _ => rfl
  | [], _ :: _, h => by simp [cmpI] at h
  | _ :: _, [], h => by simp [cmpI] at h
  | a :: l, b :: m, h => by
    unfold cmpI at h
    by_cases h1 : a < b
    · simp [h1] at h
    · by_cases h2 : b < a
      · simp [h1, h2] at h
      · rw [if_neg h1, if_neg h2] at h
        have e : a = b := by omega
        rw [e, cmpI_eq l m h]

theorem cmpI_zero {l m : List Int} : cmpI l m = 0 ↔ l = m := ⟨cmpI_eq l m, fun h => h ▸ cmpI_refl l⟩

theorem cmpI_trans : ∀ l m k, cmpI l m < 0 → cmpI m k < 0 → cmpI l k < 0
  | [], [], _, h, _ => by simp [cmpI] at h
  | _ :: _, [], _, h, _ => by simp [cmpI] at h
  | _, _ :: _, [], _, h => by simp [cmpI] at h
  | [], _ :: _, _ :: _, _, _ => by simp [cmpI]
  | a :: l, b :: m, c :: k, h, g => by
    unfold cmpI at h g ⊢
    by_cases h1 : a < b
    · by_cases g1 : b < c
      · rw [if_pos (by omega)]; omega
      · by_cases g2 : c < b
        · rw [if_neg g1, if_pos g2] at g; omega
        · rw [if_pos (by omega)]; omega
    · by_cases h2 : b < a
      · rw [if_neg h1, if_pos h2] at h; omega
      · rw [if_neg h1, if_neg h2] at h
        by_cases g1 : b < c
        · rw [if_pos (by omega)]; omega
        · by_cases g2 : c < b
          · rw [if_neg g1, if_pos g2] at g; omega
          · rw [if_neg g1, if_neg g2] at g
            rw [if_neg (by omega), if_neg (by omega)]
            exact cmpI_trans l m k h g

theorem cmpI_nil (l : List Int) : ¬ cmpI l [] < 0 := by
  cases l <;> simp [cmpI]
theorem cmpI_nil_left (l : List Int) : cmpI [] l < 0 ↔ l ≠ [] := by
  cases l <;> simp [cmpI]

/-- the same front falls away -/
theorem cmpI_append (p l m : List Int) : cmpI (p ++ l) (p ++ m) = cmpI l m := by
  induction p with
  | nil => rfl
  | cons a p ih =>
    show (if a < a then (-1 : Int) else if a < a then 1 else cmpI (p ++ l) (p ++ m)) = _
    rw [if_neg (by omega), if_neg (by omega), ih]

/-- a front that ends is ahead -/
theorem cmpI_front (p : List Int) {l : List Int} (h : l ≠ []) : cmpI p (p ++ l) < 0 := by
  have := cmpI_append p [] l
  rw [List.append_nil] at this
  rw [this, cmpI_nil_left]
  exact h

/-- The order of a number: 1: the empty one first, then falling; 2: by length; else by bytes. -/
def cmpO (o : Int) (l m : List Int) : Int :=
  if o = 1 then (if l.length = 0 ∨ m.length = 0 then cmpI l m else cmpI m l)
  else if o = 2 then (if l.length = m.length then cmpI l m else if l.length < m.length then -1 else 1)
  else cmpI l m

theorem cmpO_three (o : Int) (l m : List Int) : cmpO o l m = -1 ∨ cmpO o l m = 0 ∨ cmpO o l m = 1 := by
  unfold cmpO
  have h1 := cmpI_three l m
  have h2 := cmpI_three m l
  by_cases a : o = 1
  · rw [if_pos a]; split <;> assumption
  · rw [if_neg a]
    by_cases b : o = 2
    · rw [if_pos b]; split
      · exact h1
      · split <;> omega
    · rw [if_neg b]; exact h1

theorem cmpO_swap (o : Int) (l m : List Int) : cmpO o m l = - cmpO o l m := by
  unfold cmpO
  have h1 := cmpI_swap l m
  by_cases a : o = 1
  · rw [if_pos a, if_pos a]
    by_cases z : l.length = 0 ∨ m.length = 0
    · rw [if_pos z, if_pos (by omega)]; exact h1
    · rw [if_neg z, if_neg (by omega)]; omega
  · rw [if_neg a, if_neg a]
    by_cases b : o = 2
    · rw [if_pos b, if_pos b]
      by_cases e : l.length = m.length
      · rw [if_pos e, if_pos e.symm]; exact h1
      · rw [if_neg e, if_neg (Ne.symm e)]
        by_cases c : l.length < m.length
        · rw [if_pos c, if_neg (by omega)]; omega
        · rw [if_neg c, if_pos (by omega)]
    · rw [if_neg b, if_neg b]; exact h1

theorem cmpO_zero {o : Int} {l m : List Int} : cmpO o l m = 0 ↔ l = m := by
  unfold cmpO
  by_cases a : o = 1
  · rw [if_pos a]
    split
    · exact cmpI_zero
    · rw [cmpI_zero]; exact eq_comm
  · rw [if_neg a]
    by_cases b : o = 2
    · rw [if_pos b]
      by_cases e : l.length = m.length
      · rw [if_pos e]; exact cmpI_zero
      · rw [if_neg e]
        constructor
        · split <;> omega
        · intro h; exact absurd (h ▸ rfl) e
    · rw [if_neg b]; exact cmpI_zero

theorem len_zero {l : List Int} (h : l.length = 0) : l = [] := List.eq_nil_of_length_eq_zero h

theorem cmpO_trans (o : Int) (l m k : List Int) (h : cmpO o l m < 0) (g : cmpO o m k < 0) : cmpO o l k < 0 := by
  unfold cmpO at h g ⊢
  by_cases a : o = 1
  · rw [if_pos a] at h g ⊢
    by_cases zm : m.length = 0
    · rw [if_pos (Or.inr zm), len_zero zm] at h
      exact absurd h (cmpI_nil l)
    · by_cases zk : k.length = 0
      · rw [if_pos (Or.inr zk), len_zero zk] at g
        exact absurd g (cmpI_nil m)
      · rw [if_neg (by omega)] at g
        by_cases zl : l.length = 0
        · rw [if_pos (Or.inl zl), len_zero zl, cmpI_nil_left]
          intro e; rw [e] at zk; exact zk rfl
        · rw [if_neg (by omega)] at h
          rw [if_neg (by omega)]
          exact cmpI_trans k m l g h
  · rw [if_neg a] at h g ⊢
    by_cases b : o = 2
    · rw [if_pos b] at h g ⊢
      by_cases e : l.length = m.length
      · rw [if_pos e] at h
        by_cases f : m.length = k.length
        · rw [if_pos f] at g
          rw [if_pos (by omega)]; exact cmpI_trans l m k h g
        · rw [if_neg f] at g
          by_cases f2 : m.length < k.length
          · rw [if_neg (by omega), if_pos (by omega)]; omega
          · rw [if_neg f2] at g; omega
      · rw [if_neg e] at h
        by_cases e2 : l.length < m.length
        · by_cases f : m.length = k.length
          · rw [if_neg (by omega), if_pos (by omega)]; omega
          · rw [if_neg f] at g
            by_cases f2 : m.length < k.length
            · rw [if_neg (by omega), if_pos (by omega)]; omega
            · rw [if_neg f2] at g; omega
        · rw [if_neg e2] at h; omega
    · rw [if_neg b] at h g ⊢; exact cmpI_trans l m k h g

theorem cmpO_nil (o : Int) (l : List Int) : ¬ cmpO o l [] < 0 := by
  unfold cmpO
  by_cases a : o = 1
  · rw [if_pos a]
    simp only [List.length_nil, or_true, if_true]
    exact cmpI_nil l
  · rw [if_neg a]
    by_cases b : o = 2
    · rw [if_pos b]
      split
      · exact cmpI_nil l
      · rw [if_neg (by simp)]; omega
    · rw [if_neg b]; exact cmpI_nil l

end Go.Proofs.Ytddjenmengipkaa.Cmp
