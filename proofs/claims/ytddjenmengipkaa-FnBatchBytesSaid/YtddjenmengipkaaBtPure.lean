/- Batches, as plain lists: numbers of seven bits a byte, sized bytes, records; what the printed readers tell. -/
import Derived.Test.YtddjenmengipkaaBtUv
import Derived.Test.YtddjenmengipkaaCmp
import Derived.Laws.BitsAllLaws
import Derived.Laws.BitsLemmas
import Derived.Lib.EndianBits
namespace Go.Proofs.Ytddjenmengipkaa.Bt
open Go.RowKit Go.Proofs.YtddjenmengipkaaW.PrintWords Go.Proofs.YtddjenmengipkaaW.PrintMore Go.Proofs.Ytddjenmengipkaa.PFnBatchLoads Go.Proofs.Ytddjenmengipkaa.Cmp
set_option linter.unusedVariables false

/-- a number of seven bits a byte, and how many bytes it has -/
def uvI : List Int → Option (Int × Nat)
  | [] => none
  | b :: l => if b < 128 then some (b, 1) else match uvI l with
    | none => none
    | some r => some (b - 128 + 128 * r.1, r.2 + 1)

/-- whether nine bytes above 127 stand side by side, n of them already ahead -/
def farI : Nat → List Int → Bool
  | _, [] => false
  | n, c :: l => if c < 128 then farI 0 l else if 9 ≤ n + 1 then true else farI (n + 1) l

theorem uv_cons_lt {b : Int} {l : List Int} (h : b < 128) : uvI (b :: l) = some (b, 1) := by unfold uvI; rw [if_pos h]
theorem uv_cons_ge {b : Int} {l : List Int} (h : ¬ b < 128) : uvI (b :: l) = match uvI l with
    | none => none
    | some r => some (b - 128 + 128 * r.1, r.2 + 1) := by
  conv => lhs; unfold uvI
  rw [if_neg h]

theorem far_less : ∀ (l : List Int) (m n : Nat), m ≤ n → farI n l = false → farI m l = false := by
  intro l
  induction l with
  | nil => intro m n _ _; rfl
  | cons c l ih =>
    intro m n hmn h
    unfold farI at h ⊢
    by_cases hc : c < 128
    · rw [if_pos hc] at h ⊢; exact h
    · rw [if_neg hc] at h ⊢
      by_cases h9 : 9 ≤ n + 1
      · rw [if_pos h9] at h; cases h
      · rw [if_neg h9] at h
        rw [if_neg (by omega)]
        exact ih _ _ (by omega) h

theorem far_tail (c : Int) (l : List Int) (n : Nat) (h : farI n (c :: l) = false) : farI 0 l = false := by
  unfold farI at h
  by_cases hc : c < 128
  · rw [if_pos hc] at h; exact h
  · rw [if_neg hc] at h
    by_cases h9 : 9 ≤ n + 1
    · rw [if_pos h9] at h; cases h
    · rw [if_neg h9] at h
      exact far_less l 0 (n + 1) (by omega) h

theorem far_drop (l : List Int) (h : farI 0 l = false) : ∀ k, farI 0 (l.drop k) = false := by
  intro k
  induction k generalizing l with
  | zero => exact h
  | succ k ih =>
    cases l with
    | nil => rfl
    | cons c l => exact ih l (far_tail c l 0 h)

theorem uv_facts : ∀ (l : List Int) (x : Int) (n : Nat), Byt l → uvI l = some (x, n) → 1 ≤ n ∧ n ≤ l.length ∧ 0 ≤ x ∧ x < 2 ^ (7 * n) := by
  intro l
  induction l with
  | nil => intro x n _ h; cases h
  | cons b l ih =>
    intro x n hb h
    have hb0 := hb b (by simp)
    by_cases hc : b < 128
    · rw [uv_cons_lt hc] at h
      injection h with h
      injection h with h1 h2
      subst h1 h2
      refine ⟨Nat.le_refl _, by simp, hb0.1, ?_⟩
      have e : (2 : Int) ^ (7 * 1) = 128 := by decide
      rw [e]; exact hc
    · rw [uv_cons_ge hc] at h
      cases hu : uvI l with
      | none => rw [hu] at h; cases h
      | some r =>
        rw [hu] at h
        injection h with h
        injection h with h1 h2
        obtain ⟨i1, i2, i3, i4⟩ := ih r.1 r.2 (fun y hy => hb y (by simp [hy])) (by rw [hu])
        refine ⟨by omega, by simp; omega, by omega, ?_⟩
        have e : (2 : Int) ^ (7 * n) = 128 * 2 ^ (7 * r.2) := by
          rw [← h2, Nat.mul_add, Int.pow_add, Int.mul_comm]; congr 1
        rw [e]
        omega

theorem far_uv : ∀ (l : List Int) (m : Nat), m ≤ 8 → farI m l = false → (∀ x n, uvI l = some (x, n) → n + m ≤ 9) ∧ (uvI l = none → l.length + m ≤ 8) := by
  intro l
  induction l with
  | nil => intro m hm _; exact ⟨(fun x n h => by cases h), (fun _ => by simpa using hm)⟩
  | cons b l ih =>
    intro m hm h
    unfold farI at h
    by_cases hc : b < 128
    · refine ⟨fun x n hu => ?_, fun hu => ?_⟩
      · rw [uv_cons_lt hc] at hu
        injection hu with hu
        injection hu with _ h2
        omega
      · rw [uv_cons_lt hc] at hu; cases hu
    · rw [if_neg hc] at h
      by_cases h9 : 9 ≤ m + 1
      · rw [if_pos h9] at h; cases h
      · rw [if_neg h9] at h
        obtain ⟨i1, i2⟩ := ih (m + 1) (by omega) h
        refine ⟨fun x n hu => ?_, fun hu => ?_⟩
        · rw [uv_cons_ge hc] at hu
          cases hl : uvI l with
          | none => rw [hl] at hu; cases hu
          | some r =>
            rw [hl] at hu
            injection hu with hu
            injection hu with _ h2
            have := i1 r.1 r.2 (by rw [hl])
            omega
        · rw [uv_cons_ge hc] at hu
          cases hl : uvI l with
          | none =>
            have := i2 hl
            simp; omega
          | some r => rw [hl] at hu; cases hu

/-- a number that has been read as far as place i -/
def uvAt (v : Int) (i : Nat) (l : List Int) : Option (Int × Nat) := match uvI (l.drop i) with
  | none => none
  | some r => some (v + r.1 * 2 ^ (7 * i), i + r.2)

theorem uvAt_zero (l : List Int) : uvAt 0 0 l = uvI l := by
  unfold uvAt
  rw [List.drop_zero]
  cases uvI l with
  | none => rfl
  | some r => simp

theorem drop_rd (l : List Int) (i : Nat) (h : i < l.length) : l.drop i = rd l (i : Int) :: l.drop (i + 1) := by
  rw [List.drop_eq_getElem_cons h]
  simp [rd, List.getD_eq_getElem?_getD, h]

theorem uvAt_last (v : Int) (i : Nat) (l : List Int) (hi : i < l.length) (hc : rd l (i : Int) < 128) : uvAt v i l = some (v + rd l (i : Int) * 2 ^ (7 * i), i + 1) := by
  unfold uvAt
  rw [drop_rd l i hi, uv_cons_lt hc]

theorem uvAt_step (v : Int) (i : Nat) (l : List Int) (hi : i < l.length) (hc : ¬ rd l (i : Int) < 128) : uvAt v i l = uvAt (v + (rd l (i : Int) - 128) * 2 ^ (7 * i)) (i + 1) l := by
  unfold uvAt
  rw [drop_rd l i hi, uv_cons_ge hc]
  cases uvI (l.drop (i + 1)) with
  | none => rfl
  | some r =>
    have e : (2 : Int) ^ (7 * (i + 1)) = 128 * 2 ^ (7 * i) := by
      rw [Nat.mul_add, Int.pow_add, Int.mul_comm]; congr 1
    simp only [e]
    congr 2
    · rw [Int.add_mul, Int.add_assoc]
      congr 2
      rw [Int.mul_comm 128 r.1, Int.mul_assoc]
    · omega

theorem uvAt_end (v : Int) (i : Nat) (l : List Int) (hi : l.length ≤ i) : uvAt v i l = none := by
  unfold uvAt
  rw [List.drop_eq_nil_of_le hi]
  rfl

theorem rd_byt {l : List Int} (hb : Byt l) (i : Int) : 0 ≤ rd l i ∧ rd l i ≤ 255 := by
  unfold rd
  rw [List.getD_eq_getElem?_getD]
  cases e : l[i.toNat]? with
  | none => simp
  | some v => simpa using hb v (List.mem_of_getElem? e)

/-- bits put behind bits -/
theorem or_pow (x b : Int) (i : Nat) (hi : i ≤ 8) (x0 : 0 ≤ x) (x1 : x < 2 ^ (7 * i)) (b0 : 0 ≤ b) (b1 : b < 128) : Go.bits .or .u64 x (b * 2 ^ (7 * i)) = x + b * 2 ^ (7 * i) ∧ x + b * 2 ^ (7 * i) < 2 ^ (7 * (i + 1)) ∧ 0 ≤ b * 2 ^ (7 * i) ∧ b * 2 ^ (7 * i) < 18446744073709551616 := by
  obtain ⟨p, hp⟩ : ∃ p : Nat, p = 2 ^ (7 * i) := ⟨_, rfl⟩
  have ep : (2 : Int) ^ (7 * i) = (p : Int) := by rw [hp]; exact (Int.natCast_pow 2 _).symm
  have hp1 : p ≤ 2 ^ 56 := by rw [hp]; exact Nat.pow_le_pow_right (by decide) (by omega)
  have hp0 : 0 < p := by rw [hp]; exact Nat.pow_pos (by decide)
  have e : (2 : Int) ^ (7 * (i + 1)) = 128 * (p : Int) := by
    rw [← ep, Nat.mul_add, Int.pow_add, Int.mul_comm]; congr 1
  rw [ep] at x1 ⊢
  have h56 : (2 : Nat) ^ 56 = 72057594037927936 := by decide
  rw [h56] at hp1
  have m0 : 0 ≤ b * (p : Int) := Int.mul_nonneg b0 (by omega)
  have m1 : b * (p : Int) ≤ 127 * (p : Int) := Int.mul_le_mul_of_nonneg_right (by omega) (by omega)
  have m2 : b * (p : Int) < 18446744073709551616 := by omega
  refine ⟨?_, by rw [e]; omega, m0, m2⟩
  rw [u64_or x _ x0 (by omega) m0 m2, Nat.or_comm, nat_join (7 * i) (b * (p : Int)).toNat x.toNat ?_ ?_]
  · omega
  · have : (b * (p : Int)).toNat = b.toNat * p := by
      obtain ⟨q, rfl⟩ := Int.eq_ofNat_of_zero_le b0
      rw [← Int.natCast_mul, Int.toNat_natCast, Int.toNat_natCast]
    rw [this, ← hp, Nat.mul_mod_left]
  · rw [← hp]; omega

end Go.Proofs.Ytddjenmengipkaa.Bt
