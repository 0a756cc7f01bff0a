/- Batches written, as plain lists: numbers of seven bits a byte, sized bytes, records; and read again. -/
import Derived.Test.YtddjenmengipkaaBtDecP
namespace Go.Proofs.Ytddjenmengipkaa.Bt
open Go.RowKit Go.Proofs.YtddjenmengipkaaW.PrintWords Go.Proofs.YtddjenmengipkaaW.PrintMore Go.Proofs.Ytddjenmengipkaa.PFnBatchLoads Go.Proofs.Ytddjenmengipkaa.Cmp
set_option linter.unusedVariables false

/-- a number's bytes -/
def uvO (n : Nat) : List Int := if h : n < 128 then [(n : Int)] else ((n % 128 + 128 : Nat) : Int) :: uvO (n / 128)
  termination_by n
  decreasing_by omega

theorem uvO_lt {n : Nat} (h : n < 128) : uvO n = [(n : Int)] := by
  unfold uvO
  rw [dif_pos h]

theorem uvO_ge {n : Nat} (h : ¬ n < 128) : uvO n = ((n % 128 + 128 : Nat) : Int) :: uvO (n / 128) := by
  rw [uvO, dif_neg h]

theorem uvO_len : ∀ (k n : Nat), n < 128 ^ k → 1 ≤ k → 1 ≤ (uvO n).length ∧ (uvO n).length ≤ k := by
  intro k
  induction k with
  | zero => intro n _ h; omega
  | succ k ih =>
    intro n hn _
    by_cases h : n < 128
    · rw [uvO_lt h]; simp
    · rw [uvO_ge h]
      have hk : 1 ≤ k := by
        rcases Nat.eq_zero_or_pos k with e | e
        · subst e; simp at hn; omega
        · exact e
      have := ih (n / 128) (by rw [Nat.pow_succ] at hn; exact Nat.div_lt_of_lt_mul (by rw [Nat.mul_comm]; exact hn)) hk
      simp
      omega

theorem uvO_byt : ∀ (n : Nat), Byt (uvO n) := by
  intro n
  induction n using Nat.strongRecOn with
  | _ n ih =>
    by_cases h : n < 128
    · rw [uvO_lt h]
      intro x hx
      simp at hx
      omega
    · rw [uvO_ge h]
      intro x hx
      rcases List.mem_cons.1 hx with e | e
      · omega
      · exact ih (n / 128) (by omega) x e

theorem uvI_out : ∀ (n : Nat) (r : List Int), uvI (uvO n ++ r) = some ((n : Int), (uvO n).length) := by
  intro n
  induction n using Nat.strongRecOn with
  | _ n ih =>
    intro r
    by_cases h : n < 128
    · rw [uvO_lt h, List.singleton_append, uv_cons_lt (by omega)]
      simp only [List.length_singleton]
    · rw [uvO_ge h, List.cons_append, uv_cons_ge (by omega), ih (n / 128) (by omega) r]
      have e : ((n % 128 + 128 : Nat) : Int) - 128 + 128 * ((n / 128 : Nat) : Int) = (n : Int) := by omega
      simp only [List.length_cons]
      rw [e]

/-- bytes with their number ahead -/
def szO (k : List Int) : List Int := uvO k.length ++ k

theorem szI_out (k r : List Int) : szI (szO k ++ r) = some (k, r) := by
  unfold szI szO
  rw [List.append_assoc, uvI_out]
  simp only [List.length_append]
  rw [if_neg (by omega), Int.toNat_natCast, List.drop_left, List.take_left, ← List.drop_drop, List.drop_left, List.drop_left]

/-- a record's bytes; a batch's -/
def bwR (r : Rec) : List Int := if r.1 = true then 0 :: szO r.2.1 else 1 :: (szO r.2.1 ++ szO r.2.2)
def bwI : List Rec → List Int
  | [] => []
  | r :: rs => bwR r ++ bwI rs

theorem bwI_snoc (rs : List Rec) (r : Rec) : bwI (rs ++ [r]) = bwI rs ++ bwR r := by
  induction rs with
  | nil => simp [bwI]
  | cons x rs ih => simp [bwI, ih]

/-- a record as it is read again: a delete has no value -/
def nrm (r : Rec) : Rec := if r.1 = true then (true, r.2.1, []) else r

theorem bwR_pos (r : Rec) : 1 ≤ (bwR r).length := by
  unfold bwR
  split <;> simp

theorem rdI_out : ∀ (rs : List Rec) (f : Nat), (bwI rs).length ≤ f → rdI f (bwI rs) = some (rs.map nrm) := by
  intro rs
  induction rs with
  | nil => intro f _; cases f <;> rfl
  | cons r rs ih =>
    intro f hf
    obtain ⟨d, k, v⟩ := r
    have hp := bwR_pos (d, k, v)
    simp only [bwI, List.length_append] at hf
    obtain ⟨f, rfl⟩ : ∃ q, f = q + 1 := ⟨f - 1, by omega⟩
    have hih := ih f (by omega)
    simp only [bwI]
    cases d with
    | true =>
      have e : bwR (true, k, v) ++ bwI rs = 0 :: (szO k ++ bwI rs) := by simp [bwR]
      rw [e, rdI, szI_out]
      simp only
      rw [if_neg (by decide), if_neg (by decide), hih]
      rfl
    | false =>
      have e : bwR (false, k, v) ++ bwI rs = 1 :: (szO k ++ (szO v ++ bwI rs)) := by simp [bwR]
      rw [e, rdI, szI_out]
      simp only
      rw [if_neg (by decide), if_pos True.intro, szI_out]
      simp only
      rw [hih]
      rfl

/-- the bytes of keys and values -/
def wt : List Rec → Nat
  | [] => 0
  | r :: rs => r.2.1.length + r.2.2.length + wt rs

theorem wt_snoc (rs : List Rec) (r : Rec) : wt (rs ++ [r]) = wt rs + (r.2.1.length + r.2.2.length) := by
  induction rs with
  | nil => simp [wt]
  | cons x rs ih => simp [wt, ih]; omega

theorem szO_len (k : List Int) (h : k.length ≤ 1048576) : (szO k).length ≤ 3 + k.length ∧ 1 + k.length ≤ (szO k).length := by
  have := uvO_len 3 k.length (by omega) (by omega)
  unfold szO
  rw [List.length_append]
  omega

theorem bwI_len : ∀ (rs : List Rec), wt rs ≤ 1048576 → (bwI rs).length ≤ wt rs + 7 * rs.length := by
  intro rs
  induction rs with
  | nil => intro _; simp [bwI, wt]
  | cons r rs ih =>
    intro h
    obtain ⟨d, k, v⟩ := r
    simp only [wt] at h
    have h1 := ih (by omega)
    have hk := szO_len k (by omega)
    have hv := szO_len v (by omega)
    simp only [bwI, wt, List.length_append, List.length_cons]
    have e : (bwR (d, k, v)).length ≤ 7 + k.length + v.length := by
      unfold bwR
      cases d <;> simp <;> omega
    omega

theorem bwI_byt {rs : List Rec} (h : ∀ r ∈ rs, Byt r.2.1 ∧ Byt r.2.2) : Byt (bwI rs) := by
  have hs : ∀ k : List Int, Byt k → Byt (szO k) := by
    intro k hk x hx
    rcases List.mem_append.1 hx with e | e
    · exact uvO_byt _ x e
    · exact hk x e
  induction rs with
  | nil => intro x hx; cases hx
  | cons r rs ih =>
    intro x hx
    simp only [bwI] at hx
    rcases List.mem_append.1 hx with e | e
    · obtain ⟨d, k, v⟩ := r
      have hk := (h (d, k, v) (by simp)).1
      have hv := (h (d, k, v) (by simp)).2
      unfold bwR at e
      cases d
      · simp at e
        rcases e with e | e | e
        · omega
        · exact hs k hk x e
        · exact hs v hv x e
      · simp at e
        rcases e with e | e
        · omega
        · exact hs k hk x e
    · exact ih (fun r hr => h r (by simp [hr])) x e

theorem mem_wt {rs : List Rec} {r : Rec} (h : r ∈ rs) : r.2.1.length + r.2.2.length ≤ wt rs := by
  induction rs with
  | nil => cases h
  | cons x rs ih =>
    simp only [wt]
    rcases List.mem_cons.1 h with e | e
    · subst e; omega
    · have := ih e; omega

end Go.Proofs.Ytddjenmengipkaa.Bt
