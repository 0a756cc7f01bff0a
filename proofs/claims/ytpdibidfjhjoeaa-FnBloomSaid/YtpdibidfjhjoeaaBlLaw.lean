/- Bloom filters: no key that was put in is denied. Plain lists alone. -/
import Derived.Test.YtpdibidfjhjoeaaBlPure
namespace Go.Proofs.Ytpdibidfjhjoeaa.Bl
open Go.RowKit Go.Proofs.YtpdibidfjhjoeaaW.PrintWords Go.Proofs.YtpdibidfjhjoeaaW.PrintMore Go.Proofs.Ytpdibidfjhjoeaa.Cmp
set_option linter.unusedVariables false

theorem setBit_len (L : List Int) (p : Int) : (setBit L p).length = L.length := by simp [setBit]
theorem fold_len (ps : List Int) : ∀ L : List Int, (ps.foldl setBit L).length = L.length := by
  induction ps with
  | nil => intro L; rfl
  | cons p ps ih => intro L; rw [List.foldl_cons, ih, setBit_len]
theorem addKey_len (bits : Int) (many : Nat) (L : List Int) (h : Int) : (addKey bits many L h).length = L.length := fold_len _ _
theorem keys_len (bits : Int) (many : Nat) (hs : List Int) : ∀ L : List Int, (hs.foldl (addKey bits many) L).length = L.length := by
  induction hs with
  | nil => intro L; rfl
  | cons p ps ih => intro L; rw [List.foldl_cons, ih, addKey_len]
theorem init_len (bits : Int) (n : Nat) : (initI bits n).length = (sizeI bits n + 1).toNat := by simp [initI]
theorem bloom_len (bits : Int) (keys : List (List Int)) : (bloomI bits keys).length = (sizeI bits keys.length + 1).toNat := by
  unfold bloomI
  rw [keys_len, init_len]

theorem or_byt {x : Int} (x0 : 0 ≤ x) (x1 : x ≤ 255) (p : Int) : ∃ y : Nat, Go.bits .or .u8 x (2 ^ (p % 8).toNat) = (y : Int) ∧ y < 256 ∧ y = x.toNat ||| 2 ^ (p % 8).toNat := by
  have hp : (2 : Nat) ^ (p % 8).toNat ≤ 2 ^ 7 := Nat.pow_le_pow_right (by decide) (by omega)
  have e : ((2 ^ (p % 8).toNat : Nat) : Int) = (2 : Int) ^ (p % 8).toNat := Int.natCast_pow 2 _
  refine ⟨x.toNat ||| 2 ^ (p % 8).toNat, ?_, ?_, rfl⟩
  · have h3 : (0 : Int) ≤ ((2 ^ (p % 8).toNat : Nat) : Int) := Int.natCast_nonneg _
    have h4 : ((2 ^ (p % 8).toNat : Nat) : Int) < 256 := by omega
    rw [← e, u8_or x _ x0 (by omega) h3 h4, Int.toNat_natCast]
  · exact Nat.or_lt_two_pow (n := 8) (by omega) (by omega)

theorem set_byt {L : List Int} (h : Byt L) (p : Int) : Byt (setBit L p) := by
  intro x hx
  unfold setBit at hx
  rcases List.mem_or_eq_of_mem_set hx with hx | hx
  · exact h x hx
  · obtain ⟨y, e, h1, _⟩ := or_byt (rd_byt h (p / 8)).1 (rd_byt h (p / 8)).2 p
    rw [e] at hx
    omega
theorem fold_byt (ps : List Int) : ∀ L : List Int, Byt L → Byt (ps.foldl setBit L) := by
  induction ps with
  | nil => intro L h; exact h
  | cons p ps ih => intro L h; exact ih _ (set_byt h p)
theorem keys_byt (bits : Int) (many : Nat) (hs : List Int) : ∀ L : List Int, Byt L → Byt (hs.foldl (addKey bits many) L) := by
  induction hs with
  | nil => intro L h; exact h
  | cons p ps ih => intro L h; exact ih _ (fold_byt _ _ h)
theorem init_byt (bits : Int) (n : Nat) (h0 : 0 ≤ manyI bits) (h1 : manyI bits ≤ 255) : Byt (initI bits n) := by
  intro x hx
  unfold initI at hx
  rcases List.mem_or_eq_of_mem_set hx with hx | hx
  · have := (List.mem_replicate.1 hx).2
    omega
  · omega

theorem rd_set (L : List Int) (i : Nat) (x : Int) (q : Int) (hi : i < L.length) : rd (L.set i x) q = if q.toNat = i then x else rd L q := by
  unfold rd
  rw [List.getD_eq_getElem?_getD, List.getElem?_set]
  split
  · next e => subst e; rw [if_pos rfl]; first | rfl | (rw [if_pos hi]; rfl)
  · next e => rw [if_neg (fun z => e z.symm), ← List.getD_eq_getElem?_getD]

theorem test_self {L : List Int} (h : Byt L) (p : Int) (p0 : 0 ≤ p) (p1 : p / 8 < L.length) : testB (setBit L p) p = true := by
  unfold testB setBit
  rw [rd_set _ _ _ _ (by omega), if_pos rfl]
  obtain ⟨y, e, _, e2⟩ := or_byt (rd_byt h (p / 8)).1 (rd_byt h (p / 8)).2 p
  rw [e, Int.toNat_natCast, e2, Nat.testBit_or, Nat.testBit_two_pow]
  simp

theorem test_keep {L : List Int} (h : Byt L) (p q : Int) (p0 : 0 ≤ p) (p1 : p / 8 < L.length) (hq : testB L q = true) : testB (setBit L p) q = true := by
  unfold testB setBit
  rw [rd_set _ _ _ _ (by omega)]
  split
  · next e =>
    obtain ⟨y, e1, _, e2⟩ := or_byt (rd_byt h (p / 8)).1 (rd_byt h (p / 8)).2 p
    rw [e1, Int.toNat_natCast, e2, Nat.testBit_or]
    have e3 : rd L (q / 8) = rd L (p / 8) := by unfold rd; rw [e]
    have hq2 : (rd L (p / 8)).toNat.testBit (q % 8).toNat = true := by rw [← e3]; exact hq
    rw [hq2, Bool.true_or]
  · exact hq

theorem fold_keep (ps : List Int) (q : Int) (n : Nat) (hp : ∀ p, p ∈ ps → 0 ≤ p ∧ p / 8 < (n : Int)) : ∀ L : List Int, Byt L → L.length = n → testB L q = true → testB (ps.foldl setBit L) q = true := by
  induction ps with
  | nil => intro L _ _ h; exact h
  | cons p ps ih =>
    intro L hb hl h
    obtain ⟨p0, p1⟩ := hp p (by simp)
    exact ih (fun r hr => hp r (by simp [hr])) _ (set_byt hb p) (by rw [setBit_len, hl]) (test_keep hb p q p0 (by omega) h)

theorem fold_has (ps : List Int) (n : Nat) (hp : ∀ p, p ∈ ps → 0 ≤ p ∧ p / 8 < (n : Int)) : ∀ L : List Int, Byt L → L.length = n → ∀ q, q ∈ ps → testB (ps.foldl setBit L) q = true := by
  induction ps with
  | nil => intro L _ _ q hq; cases hq
  | cons p ps ih =>
    intro L hb hl q hq
    obtain ⟨p0, p1⟩ := hp p (by simp)
    rcases List.mem_cons.1 hq with rfl | hq
    · exact fold_keep ps q n (fun r hr => hp r (by simp [hr])) _ (set_byt hb q) (by rw [setBit_len, hl]) (test_self hb q p0 (by omega))
    · exact ih (fun r hr => hp r (by simp [hr])) _ (set_byt hb p) (by rw [setBit_len, hl]) q hq

theorem place_ok {bits : Int} {n : Nat} (b0 : 0 < bits) (hb : bits ≤ 8 * (n : Int)) (step : Int) (m : Nat) (h : Int) : ∀ p, p ∈ placesI bits step m h → 0 ≤ p ∧ p / 8 < (n : Int) := fun p hp => by
  have := places_mem bits step b0 m h p hp
  omega

theorem keys_keep {bits : Int} {n : Nat} (b0 : 0 < bits) (hb : bits ≤ 8 * (n : Int)) (m : Nat) (hs : List Int) (q : Int) : ∀ L : List Int, Byt L → L.length = n → testB L q = true → testB (hs.foldl (addKey bits m) L) q = true := by
  induction hs with
  | nil => intro L _ _ h; exact h
  | cons x hs ih =>
    intro L hbt hl h
    exact ih _ (fold_byt _ _ hbt) (by rw [addKey_len, hl]) (fold_keep _ q n (place_ok b0 hb _ _ _) L hbt hl h)

theorem keys_has {bits : Int} {n : Nat} (b0 : 0 < bits) (hb : bits ≤ 8 * (n : Int)) (m : Nat) (hs : List Int) (x : Int) (hx : x ∈ hs) : ∀ L : List Int, Byt L → L.length = n → ∀ q, q ∈ placesI bits (rotI x) m x → testB (hs.foldl (addKey bits m) L) q = true := by
  induction hs with
  | nil => cases hx
  | cons y hs ih =>
    intro L hbt hl q hq
    rcases List.mem_cons.1 hx with rfl | hx
    · exact keys_keep b0 hb m hs q _ (fold_byt _ _ hbt) (by rw [addKey_len, hl]) (fold_has _ n (place_ok b0 hb _ _ _) L hbt hl q hq)
    · exact ih hx _ (fold_byt _ _ hbt) (by rw [fold_len, hl]) q hq

/-- the last byte stays -/
theorem fold_last (ps : List Int) (i : Nat) (hp : ∀ p, p ∈ ps → 0 ≤ p ∧ p / 8 < (i : Int)) : ∀ L : List Int, i < L.length → rd (ps.foldl setBit L) (i : Int) = rd L (i : Int) := by
  induction ps with
  | nil => intro L _; rfl
  | cons p ps ih =>
    intro L hl
    obtain ⟨p0, p1⟩ := hp p (by simp)
    rw [List.foldl_cons, ih (fun r hr => hp r (by simp [hr])) _ (by rw [setBit_len]; exact hl)]
    unfold setBit
    rw [rd_set _ _ _ _ (by omega), if_neg (by omega)]

theorem keys_last {bits : Int} {i : Nat} (b0 : 0 < bits) (hb : bits ≤ 8 * (i : Int)) (m : Nat) (hs : List Int) : ∀ L : List Int, i < L.length → rd (hs.foldl (addKey bits m) L) (i : Int) = rd L (i : Int) := by
  induction hs with
  | nil => intro L _; rfl
  | cons x hs ih =>
    intro L hl
    rw [List.foldl_cons, ih _ (by rw [addKey_len]; exact hl)]
    exact fold_last _ i (place_ok b0 hb _ _ _) L hl

theorem many_range (bits : Int) : 1 ≤ manyI bits ∧ manyI bits ≤ 30 := by
  unfold manyI mn mx
  (repeat' split) <;> omega

theorem size_lo (bits : Int) (n : Nat) : 8 ≤ sizeI bits n := by
  unfold sizeI mx
  split <;> omega

theorem bloom_byt (bits : Int) (keys : List (List Int)) : Byt (bloomI bits keys) := by
  have := many_range bits
  exact keys_byt _ _ _ _ (init_byt bits _ (by omega) (by omega))

theorem bloom_has (bits : Int) (keys : List (List Int)) (k : List Int) (hk : k ∈ keys) : hasI (bloomI bits keys) k = true := by
  have hm := many_range bits
  have hs := size_lo bits keys.length
  obtain ⟨S, eS⟩ : ∃ S : Nat, sizeI bits keys.length = (S : Int) := ⟨(sizeI bits keys.length).toNat, by omega⟩
  have hl : (bloomI bits keys).length = S + 1 := by rw [bloom_len, eS]; omega
  have hil : (initI bits keys.length).length = S + 1 := by rw [init_len, eS]; omega
  have hlast : rd (bloomI bits keys) (S : Int) = manyI bits := by
    unfold bloomI
    rw [keys_last (i := S) (by omega) (by omega) _ _ _ (by omega)]
    unfold initI
    rw [eS, rd_set _ _ _ _ (by simp <;> omega), if_pos rfl]
  unfold hasI
  rw [if_neg (by omega), hl]
  have e1 : (((S + 1 : Nat) : Int) - 1) = (S : Int) := by omega
  rw [e1, hlast, if_neg (by omega), List.all_eq_true]
  intro q hq
  unfold bloomI
  rw [eS]
  exact keys_has (n := S + 1) (by omega) (by omega) _ _ (bhash k) (List.mem_map.2 ⟨k, hk, rfl⟩) _ (init_byt bits _ (by omega) (by omega)) hil q hq

end Go.Proofs.Ytpdibidfjhjoeaa.Bl
