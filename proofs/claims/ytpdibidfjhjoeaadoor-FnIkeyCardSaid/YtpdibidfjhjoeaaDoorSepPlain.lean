/- What Separator and Successor of the order of bytes put behind: plain lists. -/
import Derived.Test.YtpdibidfjhjoeaaDoorCmp
namespace Go.Proofs.YtpdibidfjhjoeaaDoor.SepPlain
open Go.Proofs.YtpdibidfjhjoeaaDoor.Cmp

/-- the bytes between two keys, if any are told -/
def sepI : List Int → List Int → Option (List Int)
  | [], _ => none
  | _ :: _, [] => none
  | x :: l, y :: m => if x = y then (sepI l m).map (x :: ·) else if x < 255 ∧ x + 1 < y then some [x + 1] else none

/-- the bytes behind a key, if any are told -/
def succI : List Int → Option (List Int)
  | [] => none
  | x :: l => if x = 255 then (succI l).map (x :: ·) else some [x + 1]

theorem sepI_between : ∀ (l m s : List Int), sepI l m = some s → cmpI l s < 0 ∧ cmpI s m < 0
  | [], _, _, h => by simp [sepI] at h
  | _ :: _, [], _, h => by simp [sepI] at h
  | x :: l, y :: m, s, h => by
    unfold sepI at h
    by_cases e : x = y
    · rw [if_pos e] at h
      obtain ⟨t, ht, rfl⟩ := Option.map_eq_some_iff.1 h
      have ih := sepI_between l m t ht
      subst e
      constructor
      · have := cmpI_append [x] l t; simp only [List.singleton_append] at this; rw [this]; exact ih.1
      · have := cmpI_append [x] t m; simp only [List.singleton_append] at this; rw [this]; exact ih.2
    · rw [if_neg e] at h
      by_cases c : x < 255 ∧ x + 1 < y
      · rw [if_pos c] at h
        injection h with h
        subst h
        constructor
        · show (if x < x + 1 then (-1 : Int) else if x + 1 < x then 1 else cmpI l []) < 0
          rw [if_pos (by omega)]; omega
        · show (if x + 1 < y then (-1 : Int) else if y < x + 1 then 1 else cmpI [] m) < 0
          rw [if_pos (by omega)]; omega
      · rw [if_neg c] at h; cases h

theorem succI_behind : ∀ (l s : List Int), succI l = some s → cmpI l s < 0
  | [], _, h => by simp [succI] at h
  | x :: l, s, h => by
    unfold succI at h
    by_cases e : x = 255
    · rw [if_pos e] at h
      obtain ⟨t, ht, rfl⟩ := Option.map_eq_some_iff.1 h
      have ih := succI_behind l t ht
      have := cmpI_append [x] l t; simp only [List.singleton_append] at this; rw [this]; exact ih
    · rw [if_neg e] at h
      injection h with h
      subst h
      show (if x < x + 1 then (-1 : Int) else if x + 1 < x then 1 else cmpI l []) < 0
      rw [if_pos (by omega)]; omega

theorem sepI_len : ∀ (l m s : List Int), sepI l m = some s → 0 < s.length ∧ s.length ≤ l.length
  | [], _, _, h => by simp [sepI] at h
  | _ :: _, [], _, h => by simp [sepI] at h
  | x :: l, y :: m, s, h => by
    unfold sepI at h
    by_cases e : x = y
    · rw [if_pos e] at h
      obtain ⟨t, ht, rfl⟩ := Option.map_eq_some_iff.1 h
      have ih := sepI_len l m t ht
      simp; omega
    · rw [if_neg e] at h
      by_cases c : x < 255 ∧ x + 1 < y
      · rw [if_pos c] at h
        injection h with h
        subst h
        simp
      · rw [if_neg c] at h; cases h

theorem succI_len : ∀ (l s : List Int), succI l = some s → 0 < s.length ∧ s.length ≤ l.length
  | [], _, h => by simp [succI] at h
  | x :: l, s, h => by
    unfold succI at h
    by_cases e : x = 255
    · rw [if_pos e] at h
      obtain ⟨t, ht, rfl⟩ := Option.map_eq_some_iff.1 h
      have ih := succI_len l t ht
      simp; omega
    · rw [if_neg e] at h
      injection h with h
      subst h
      simp

/-- the common front -/
theorem sepI_front (p l m : List Int) : sepI (p ++ l) (p ++ m) = (sepI l m).map (p ++ ·) := by
  induction p with
  | nil => simp
  | cons x p ih =>
    show (if x = x then (sepI (p ++ l) (p ++ m)).map (x :: ·) else _) = _
    rw [if_pos rfl, ih, Option.map_map]
    rfl

theorem succI_front (n : Nat) (l : List Int) : succI (List.replicate n 255 ++ l) = (succI l).map (List.replicate n 255 ++ ·) := by
  induction n with
  | zero => simp
  | succ n ih =>
    rw [List.replicate_succ]
    show (if (255 : Int) = 255 then (succI (List.replicate n 255 ++ l)).map (255 :: ·) else _) = _
    rw [if_pos rfl, ih, Option.map_map]
    rfl

theorem take_snoc (l : List Int) (k : Nat) (h : k < l.length) : l.take (k + 1) = l.take k ++ [l.getD k 0] := by
  rw [List.take_succ_eq_append_getElem h]
  simp [List.getD_eq_getElem?_getD, h]

theorem split_at (l : List Int) (k : Nat) (h : k < l.length) : l = l.take k ++ l.getD k 0 :: l.drop (k + 1) := by
  have e : l.drop k = l.getD k 0 :: l.drop (k + 1) := by
    rw [List.drop_eq_getElem_cons h]
    simp [List.getD_eq_getElem?_getD, h]
  rw [← e, List.take_append_drop]

/-- no bytes: one is the other's front -/
theorem sepI_end (l m : List Int) (k : Nat) (hl : k ≤ l.length) (hm : k ≤ m.length) (h : l.take k = m.take k) (e : l.length = k ∨ m.length = k) : sepI l m = none := by
  have e1 : l = m.take k ++ l.drop k := by rw [← h]; exact (List.take_append_drop k l).symm
  have e2 : m = m.take k ++ m.drop k := (List.take_append_drop k m).symm
  rw [e1, e2, List.take_left' (by simp; omega), sepI_front]
  have : sepI (l.drop k) (m.drop k) = none := by
    rcases e with e | e
    · rw [List.drop_eq_nil_of_le (by omega)]; rfl
    · have em : m.drop k = [] := List.drop_eq_nil_of_le (by omega)
      rw [em]
      cases l.drop k <;> rfl
  rw [this]; rfl

theorem sepI_at (l m : List Int) (k : Nat) (hl : k < l.length) (hm : k < m.length) (h : l.take k = m.take k) (e : l.getD k 0 ≠ m.getD k 0) :
    sepI l m = if l.getD k 0 < 255 ∧ l.getD k 0 + 1 < m.getD k 0 then some (l.take k ++ [l.getD k 0 + 1]) else none := by
  have e1 := split_at l k hl
  have e2 := split_at m k hm
  generalize hx : l.getD k 0 = x at *
  generalize hy : m.getD k 0 = y at *
  rw [← h] at e2
  generalize hp : l.take k = p at *
  rw [e1, e2, sepI_front]
  unfold sepI
  rw [if_neg e]
  split <;> simp

theorem succI_at (l : List Int) (k : Nat) (hl : k < l.length) (h : l.take k = List.replicate k 255) (e : l.getD k 0 ≠ 255) : succI l = some (l.take k ++ [l.getD k 0 + 1]) := by
  have e1 := split_at l k hl
  generalize hx : l.getD k 0 = x at *
  rw [h] at e1 ⊢
  rw [e1, succI_front]
  unfold succI
  rw [if_neg e]
  rfl

theorem succI_end (l : List Int) (h : l = List.replicate l.length 255) : succI l = none := by
  rw [h]
  have := succI_front l.length []
  rw [List.append_nil] at this
  rw [this]; rfl

end Go.Proofs.YtpdibidfjhjoeaaDoor.SepPlain
