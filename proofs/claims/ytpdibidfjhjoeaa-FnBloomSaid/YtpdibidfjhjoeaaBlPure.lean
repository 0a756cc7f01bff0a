/- Bloom filters, as plain lists of whole numbers: the hash, the places, the bits; what the reference's functions (as printed) tell. -/
import Derived.Test.YtpdibidfjhjoeaaPFnBloomx3
import Derived.Test.YtpdibidfjhjoeaaCmp
import Derived.Laws.BitsAllLaws
import Derived.Lib.EndianBits
namespace Go.Proofs.Ytpdibidfjhjoeaa.Bl
open Go.RowKit Go.Proofs.YtpdibidfjhjoeaaW.PrintWords Go.Proofs.YtpdibidfjhjoeaaW.PrintMore Go.Proofs.Ytpdibidfjhjoeaa.PFnBloom Go.Proofs.Ytpdibidfjhjoeaa.Cmp
set_option linter.unusedVariables false

def le4 (a b c d : Int) : Int := a + b * 256 + c * 65536 + d * 16777216
def mixI (h w : Int) : Int := Go.bits .xor .u32 (((h + w) % 4294967296 * 3332679571) % 4294967296) ((((h + w) % 4294967296 * 3332679571) % 4294967296) / 65536)
def finI (h : Int) : Int := Go.bits .xor .u32 ((h * 3332679571) % 4294967296) (((h * 3332679571) % 4294967296) / 16777216)
def tailI : List Int → Int → Int
  | [a], h => finI ((h + a) % 4294967296)
  | [a, b], h => finI (((h + b * 256) % 4294967296 + a) % 4294967296)
  | [a, b, c], h => finI ((((h + c * 65536) % 4294967296 + b * 256) % 4294967296 + a) % 4294967296)
  | _, h => h
def hashI : List Int → Int → Int
  | a :: b :: c :: d :: l, h => hashI l (mixI h (le4 a b c d))
  | l, h => tailI l h
def bhash (l : List Int) : Int := hashI l (Go.bits .xor .u32 3164544308 (((l.length : Int) % 4294967296 * 3332679571) % 4294967296))
def rotI (h : Int) : Int := Go.bits .or .u32 (h / 131072) ((h * 32768) % 4294967296)
def placesI (bits step : Int) : Nat → Int → List Int
  | 0, _ => []
  | n + 1, h => h % bits :: placesI bits step n ((h + step) % 4294967296)
def setBit (L : List Int) (p : Int) : List Int := L.set (p / 8).toNat (Go.bits .or .u8 (rd L (p / 8)) (2 ^ (p % 8).toNat))
def testB (L : List Int) (p : Int) : Bool := (rd L (p / 8)).toNat.testBit (p % 8).toNat
def addKey (bits : Int) (many : Nat) (L : List Int) (h : Int) : List Int := (placesI bits (rotI h) many h).foldl setBit L
def manyI (bits : Int) : Int := mn (mx (bits * 69 / 100) 1) 30
def sizeI (bits : Int) (n : Nat) : Int := (mx (bits * n) 64 + 7) / 8
def initI (bits : Int) (n : Nat) : List Int := (List.replicate (sizeI bits n + 1).toNat 0).set (sizeI bits n).toNat (manyI bits)
def bloomI (bits : Int) (keys : List (List Int)) : List Int := (keys.map bhash).foldl (addKey (8 * sizeI bits keys.length) (manyI bits).toNat) (initI bits keys.length)
def hasI (f key : List Int) : Bool :=
  if f.length < 2 then false else if 30 < rd f ((f.length : Int) - 1) then true
  else (placesI (8 * ((f.length : Int) - 1)) (rotI (bhash key)) (rd f ((f.length : Int) - 1)).toNat (bhash key)).all (testB f)

theorem xor_range {a b : Int} (a0 : 0 ≤ a) (a1 : a < 4294967296) (b0 : 0 ≤ b) (b1 : b < 4294967296) : 0 ≤ Go.bits .xor .u32 a b ∧ Go.bits .xor .u32 a b < 4294967296 := by
  rw [u32_xor a b a0 a1 b0 b1]
  have := Nat.xor_lt_two_pow (n := 32) (x := a.toNat) (y := b.toNat) (by omega) (by omega)
  omega
theorem or_range {a b : Int} (a0 : 0 ≤ a) (a1 : a < 4294967296) (b0 : 0 ≤ b) (b1 : b < 4294967296) : 0 ≤ Go.bits .or .u32 a b ∧ Go.bits .or .u32 a b < 4294967296 := by
  rw [u32_or a b a0 a1 b0 b1]
  have := Nat.or_lt_two_pow (n := 32) (x := a.toNat) (y := b.toNat) (by omega) (by omega)
  omega
theorem mix_range (h w : Int) : 0 ≤ mixI h w ∧ mixI h w < 4294967296 := xor_range (by omega) (by omega) (by omega) (by omega)
theorem fin_range (h : Int) : 0 ≤ finI h ∧ finI h < 4294967296 := xor_range (by omega) (by omega) (by omega) (by omega)
theorem rot_range (h : Int) (h0 : 0 ≤ h) (h1 : h < 4294967296) : 0 ≤ rotI h ∧ rotI h < 4294967296 := or_range (by omega) (by omega) (by omega) (by omega)
theorem tail_range (l : List Int) (h : Int) (h0 : 0 ≤ h) (h1 : h < 4294967296) : 0 ≤ tailI l h ∧ tailI l h < 4294967296 := by
  unfold tailI
  split
  · exact fin_range _
  · exact fin_range _
  · exact fin_range _
  · exact ⟨h0, h1⟩
theorem hash_range : ∀ (l : List Int) (h : Int), 0 ≤ h → h < 4294967296 → 0 ≤ hashI l h ∧ hashI l h < 4294967296
  | a :: b :: c :: d :: l, h, h0, h1 => by
    unfold hashI
    exact hash_range l _ (mix_range _ _).1 (mix_range _ _).2
  | [], h, h0, h1 => by unfold hashI; exact tail_range _ h h0 h1
  | [_], h, h0, h1 => by unfold hashI; exact tail_range _ h h0 h1
  | [_, _], h, h0, h1 => by unfold hashI; exact tail_range _ h h0 h1
  | [_, _, _], h, h0, h1 => by unfold hashI; exact tail_range _ h h0 h1
theorem seed_range (n : Int) : 0 ≤ Go.bits .xor .u32 3164544308 ((n % 4294967296 * 3332679571) % 4294967296) ∧ Go.bits .xor .u32 3164544308 ((n % 4294967296 * 3332679571) % 4294967296) < 4294967296 := xor_range (by omega) (by omega) (by omega) (by omega)
theorem bhash_range (l : List Int) : 0 ≤ bhash l ∧ bhash l < 4294967296 := hash_range _ _ (seed_range _).1 (seed_range _).2

theorem or_low8 (x y : Int) (hx : 0 ≤ x) (h1 : x < 16777216) (hy : 0 ≤ y) (h2 : y ≤ 255) : Go.bits .or .u32 ((x * 256) % 4294967296) (y % 4294967296) = x * 256 + y := by
  have e1 : (x * 256) % 4294967296 = x * 256 := by omega
  have e2 : y % 4294967296 = y := by omega
  rw [e1, e2, u32_or _ _ (by omega) (by omega) (by omega) (by omega), Nat.or_comm, ← u32_or y (x * 256) hy (by omega) (by omega) (by omega), u32_or8 (x := x * 256) (y := y) hy (by omega) (by omega) (by omega) (by omega)]
  omega

theorem le32 (a b c d : Int) (l : List Int) (hb : Byt (a :: b :: c :: d :: l)) (k : Nat) : spec_Le32.f (k + 5) (a :: b :: c :: d :: l) = some (le4 a b c d) := by
  have ha := hb a (by simp)
  have hb' := hb b (by simp)
  have hc := hb c (by simp)
  have hd := hb d (by simp)
  have r0 : rd (a :: b :: c :: d :: l) 0 = a := rfl
  have r1 : rd (a :: b :: c :: d :: l) 1 = b := rfl
  have r2 : rd (a :: b :: c :: d :: l) 2 = c := rfl
  have r3 : rd (a :: b :: c :: d :: l) 3 = d := rfl
  have hl : ((a :: b :: c :: d :: l).length : Int) = (l.length : Int) + 4 := by simp; omega
  have w3 : wrap64 (3 - 1) = 2 := by unfold wrap64; simp
  have w2 : wrap64 (2 - 1) = 1 := by unfold wrap64; simp
  have w1 : wrap64 (1 - 1) = 0 := by unfold wrap64; simp
  have w0 : wrap64 (0 - 1) = -1 := by unfold wrap64; simp
  unfold spec_Le32.f
  simp only [spec_Le32.l0, hl, w3, w2, w1, w0, r0, r1, r2, r3]
  rw [if_pos (by omega), if_pos (by omega), if_pos (by omega), if_pos (by omega), if_pos (by omega), if_pos (by omega), if_pos (by omega), if_pos (by omega), if_pos (by omega), if_pos (by omega), if_pos (by omega), if_pos (by omega), if_neg (by omega)]
  rw [or_low8 0 d (by omega) (by omega) (by omega) (by omega), or_low8 _ c (by omega) (by omega) (by omega) (by omega), or_low8 _ b (by omega) (by omega) (by omega) (by omega), or_low8 _ a (by omega) (by omega) (by omega) (by omega)]
  unfold le4
  congr 1
  omega

theorem u0 : IntKind.u64.wrap (wrap64 (8 * 0)) = 0 := by rw [IntKind.wrap_u64]; unfold wrap64; simp
theorem u1 : IntKind.u64.wrap (wrap64 (8 * 1)) = 8 := by rw [IntKind.wrap_u64]; unfold wrap64; simp
theorem u2 : IntKind.u64.wrap (wrap64 (8 * 2)) = 16 := by rw [IntKind.wrap_u64]; unfold wrap64; simp
theorem sh0 (a : Int) (h0 : 0 ≤ a) (h1 : a ≤ 255) : shl .u32 (a % 4294967296) 0 = a := by
  show IntKind.u32.wrap ((a % 4294967296) * 2 ^ 0) = a
  rw [IntKind.wrap_u32]; omega
theorem sh1 (a : Int) (h0 : 0 ≤ a) (h1 : a ≤ 255) : shl .u32 (a % 4294967296) 8 = a * 256 := by
  show IntKind.u32.wrap ((a % 4294967296) * 2 ^ 8) = _
  rw [IntKind.wrap_u32]; omega
theorem sh2 (a : Int) (h0 : 0 ≤ a) (h1 : a ≤ 255) : shl .u32 (a % 4294967296) 16 = a * 65536 := by
  show IntKind.u32.wrap ((a % 4294967296) * 2 ^ 16) = _
  rw [IntKind.wrap_u32]; omega

theorem hash_l0 : ∀ (l : List Int) (h : Int) (k : Nat), Byt l → l.length ≤ 9223372036854775807 → 0 ≤ h → h < 4294967296 → l.length + 6 ≤ k → spec_BloomHash.l0 k l h = some (hashI l h)
  | a :: b :: c :: d :: l, h, k, hb, hm, h0, h1, hk => by
    obtain ⟨k, rfl⟩ : ∃ q, k = q + 6 := ⟨k - 6, by simp at hk; omega⟩
    simp only [List.length_cons] at hk hm
    rw [spec_BloomHash.l0, if_pos (by simp <;> omega), le32 a b c d l hb k]
    simp only [Option.bind_some]
    rw [if_pos (by simp <;> omega)]
    have ih := hash_l0 l (mixI h (le4 a b c d)) (k + 5) (fun x hx => hb x (by simp [hx])) (by omega) (mix_range _ _).1 (mix_range _ _).2 (by omega)
    simp only [List.drop_succ_cons, List.drop_zero]
    unfold hashI
    exact ih
  | [], h, k, hb, hm, h0, h1, hk => by
    obtain ⟨k, rfl⟩ : ∃ q, k = q + 6 := ⟨k - 6, by simp at hk; omega⟩
    have w : wrap64 ((([] : List Int).length : Int) - 1) = -1 := by unfold wrap64; simp
    rw [spec_BloomHash.l0, if_neg (by simp), w, spec_BloomHash.l1, if_neg (by omega), if_neg (by simp)]
    rfl
  | [a], h, k, hb, hm, h0, h1, hk => by
    obtain ⟨k, rfl⟩ : ∃ q, k = q + 6 := ⟨k - 6, by simp at hk; omega⟩
    have ha := hb a (by simp)
    have w : wrap64 ((([a] : List Int).length : Int) - 1) = 0 := by unfold wrap64; simp
    have w0 : wrap64 (0 - 1) = -1 := by unfold wrap64; simp
    have s0 : shl .u32 ((rd [a] 0) % 4294967296) (IntKind.u64.wrap (wrap64 (8 * 0))) = a := by rw [u0]; exact sh0 a ha.1 ha.2
    rw [spec_BloomHash.l0, if_neg (by simp), w, spec_BloomHash.l1, if_pos (by omega), if_pos (by omega), if_pos (by simp), if_pos (by rw [u0]; decide), s0, w0, spec_BloomHash.l1, if_neg (by omega), if_pos (by simp)]
    rfl
  | [a, b], h, k, hb, hm, h0, h1, hk => by
    obtain ⟨k, rfl⟩ : ∃ q, k = q + 6 := ⟨k - 6, by simp at hk; omega⟩
    have ha := hb a (by simp)
    have hb' := hb b (by simp)
    have w : wrap64 ((([a, b] : List Int).length : Int) - 1) = 1 := by unfold wrap64; simp
    have w1 : wrap64 (1 - 1) = 0 := by unfold wrap64; simp
    have w0 : wrap64 (0 - 1) = -1 := by unfold wrap64; simp
    have s0 : shl .u32 ((rd [a, b] 0) % 4294967296) (IntKind.u64.wrap (wrap64 (8 * 0))) = a := by rw [u0]; exact sh0 a ha.1 ha.2
    have s1 : shl .u32 ((rd [a, b] 1) % 4294967296) (IntKind.u64.wrap (wrap64 (8 * 1))) = b * 256 := by rw [u1]; exact sh1 b hb'.1 hb'.2
    rw [spec_BloomHash.l0, if_neg (by simp), w, spec_BloomHash.l1, if_pos (by omega), if_pos (by omega), if_pos (by simp), if_pos (by rw [u1]; decide), s1, w1, spec_BloomHash.l1, if_pos (by omega), if_pos (by omega), if_pos (by simp <;> omega), if_pos (by rw [u0]; decide), s0, w0, spec_BloomHash.l1, if_neg (by omega), if_pos (by simp <;> omega)]
    rfl
  | [a, b, c], h, k, hb, hm, h0, h1, hk => by
    obtain ⟨k, rfl⟩ : ∃ q, k = q + 6 := ⟨k - 6, by simp at hk; omega⟩
    have ha := hb a (by simp)
    have hb' := hb b (by simp)
    have hc := hb c (by simp)
    have w : wrap64 ((([a, b, c] : List Int).length : Int) - 1) = 2 := by unfold wrap64; simp
    have w2 : wrap64 (2 - 1) = 1 := by unfold wrap64; simp
    have w1 : wrap64 (1 - 1) = 0 := by unfold wrap64; simp
    have w0 : wrap64 (0 - 1) = -1 := by unfold wrap64; simp
    have s0 : shl .u32 ((rd [a, b, c] 0) % 4294967296) (IntKind.u64.wrap (wrap64 (8 * 0))) = a := by rw [u0]; exact sh0 a ha.1 ha.2
    have s1 : shl .u32 ((rd [a, b, c] 1) % 4294967296) (IntKind.u64.wrap (wrap64 (8 * 1))) = b * 256 := by rw [u1]; exact sh1 b hb'.1 hb'.2
    have s2 : shl .u32 ((rd [a, b, c] 2) % 4294967296) (IntKind.u64.wrap (wrap64 (8 * 2))) = c * 65536 := by rw [u2]; exact sh2 c hc.1 hc.2
    rw [spec_BloomHash.l0, if_neg (by simp), w, spec_BloomHash.l1, if_pos (by omega), if_pos (by omega), if_pos (by simp), if_pos (by rw [u2]; decide), s2, w2, spec_BloomHash.l1, if_pos (by omega), if_pos (by omega), if_pos (by simp <;> omega), if_pos (by rw [u1]; decide), s1, w1, spec_BloomHash.l1, if_pos (by omega), if_pos (by omega), if_pos (by simp <;> omega), if_pos (by rw [u0]; decide), s0, w0, spec_BloomHash.l1, if_neg (by omega), if_pos (by simp <;> omega)]
    rfl

theorem bloomHash (l : List Int) (hb : Byt l) (hm : l.length ≤ 9223372036854775807) (k : Nat) (hk : l.length + 6 ≤ k) : spec_BloomHash.f k l = some (bhash l) :=
  hash_l0 l _ k hb hm (seed_range _).1 (seed_range _).2 hk

theorem places_l0 (bits step : Int) (b0 : 0 < bits) (b1 : bits < 4294967296) (many : Nat) (hm : many ≤ 1000) : ∀ (n : Nat) (h : Int) (acc : List Int) (k : Nat), n ≤ many → acc.length + n ≤ 1000 → 0 ≤ h → h < 4294967296 → n < k →
    spec_BloomPlaces.l0 k bits (many : Int) h step acc ((many - n : Nat) : Int) = some (acc ++ placesI bits step n h)
  | 0, h, acc, k, hn, ha, h0, h1, hk => by
    obtain ⟨k, rfl⟩ : ∃ q, k = q + 1 := ⟨k - 1, by omega⟩
    rw [spec_BloomPlaces.l0, if_neg (by omega)]
    simp [placesI]
  | n + 1, h, acc, k, hn, ha, h0, h1, hk => by
    obtain ⟨k, rfl⟩ : ∃ q, k = q + 1 := ⟨k - 1, by omega⟩
    have eb : bits % 4294967296 = bits := by omega
    have et : Int.tmod h bits = h % bits := Int.tmod_eq_emod_of_nonneg h0
    have e0 := Int.emod_nonneg h (show bits ≠ 0 by omega)
    have e1 := Int.emod_lt_of_pos h b0
    have ew : wrap64 (h % bits) = h % bits := by unfold wrap64; omega
    have en : wrap64 (((many - (n + 1) : Nat) : Int) + 1) = ((many - n : Nat) : Int) := by unfold wrap64; omega
    rw [spec_BloomPlaces.l0, eb, if_pos (by omega), if_neg (by omega), if_pos (by omega), et, ew, en, places_l0 bits step b0 b1 many hm n _ _ k (by omega) (by simp <;> omega) (by omega) (by omega) (by omega)]
    simp [placesI]

theorem bloomPlaces (key : List Int) (hb : Byt key) (hl : key.length ≤ 9223372036854775807) (bits : Int) (b0 : 0 < bits) (b1 : bits < 4294967296) (many : Nat) (hm : many ≤ 1000) (k : Nat) (hk : key.length + 6 ≤ k) (hk2 : many < k) :
    spec_BloomPlaces.f k key bits (many : Int) = some (placesI bits (rotI (bhash key)) many (bhash key)) := by
  unfold spec_BloomPlaces.f
  rw [bloomHash key hb hl k hk]
  simp only [Option.bind_some]
  have := places_l0 bits (rotI (bhash key)) b0 b1 many hm many (bhash key) [] k (Nat.le_refl _) (by simp <;> omega) (bhash_range _).1 (bhash_range _).2 hk2
  rw [Nat.sub_self] at this
  exact this

theorem places_mem (bits step : Int) (b0 : 0 < bits) : ∀ (n : Nat) (h : Int) (p : Int), p ∈ placesI bits step n h → 0 ≤ p ∧ p < bits
  | 0, _, p, hp => by simp [placesI] at hp
  | n + 1, h, p, hp => by
    simp only [placesI, List.mem_cons] at hp
    rcases hp with rfl | hp
    · exact ⟨Int.emod_nonneg h (by omega), Int.emod_lt_of_pos h b0⟩
    · exact places_mem bits step b0 n _ p hp

theorem rd_byt {l : List Int} (hb : Byt l) (i : Int) : 0 ≤ rd l i ∧ rd l i ≤ 255 := by
  unfold rd
  rw [List.getD_eq_getElem?_getD]
  cases e : l[i.toNat]? with
  | none => simp
  | some v => simpa using hb v (List.mem_of_getElem? e)

theorem bit_test (x s : Int) (x0 : 0 ≤ x) (x1 : x ≤ 255) (s0 : 0 ≤ s) (s1 : s < 8) : Go.bits .and .u8 (shr .u8 x s) 1 = 0 ↔ x.toNat.testBit s.toNat = false := by
  have e : shr .u8 x s = ((x.toNat >>> s.toNat : Nat) : Int) := by
    unfold shr
    have : IntKind.u8.bits = 8 := rfl
    rw [this, Nat.min_eq_left (by omega), Nat.shiftRight_eq_div_pow]
    have : x = (x.toNat : Int) := by omega
    rw [this]
    simp
  have hlt : x.toNat >>> s.toNat < 256 := Nat.lt_of_le_of_lt (Nat.shiftRight_le _ _) (by omega)
  have h8 := u8_and_nat _ 1 hlt (by omega)
  rw [show ((1 : Nat) : Int) = 1 from rfl] at h8
  have := Nat.and_one_is_mod (x.toNat >>> s.toNat)
  rw [e, h8, Nat.testBit, Nat.and_comm 1, this]
  rcases Nat.mod_two_eq_zero_or_one (x.toNat >>> s.toNat) with z | z <;> simp [z]

theorem testB_eq (f : List Int) (hf : Byt f) (p : Int) (p0 : 0 ≤ p) : Go.bits .and .u8 (shr .u8 (rd f (p / 8)) (p % 8)) 1 = 0 ↔ testB f p = false := by
  have hr := rd_byt hf (p / 8)
  unfold testB
  exact bit_test _ _ hr.1 hr.2 (by omega) (by omega)

theorem has_step (f : List Int) (hf : Byt f) (p : Int) (p0 : 0 ≤ p) (p1 : p < 8 * ((f.length : Int) - 1)) (hl : f.length ≤ 4194304) (A B : Option Bool) :
    (if 0 ≤ (wrap64 (Int.tdiv p 8)) then (if (wrap64 (Int.tdiv p 8)) < (f.length : Int) then (if 0 ≤ (IntKind.u64.wrap (Int.tmod p 8)) then (if (Go.bits .and .u8 (shr .u8 (rd f (wrap64 (Int.tdiv p 8))) (IntKind.u64.wrap (Int.tmod p 8))) 1) = 0 then A else B) else none) else none) else none) = if testB f p = true then B else A := by
  have t1 : Int.tdiv p 8 = p / 8 := Int.tdiv_eq_ediv_of_nonneg p0
  have t2 : Int.tmod p 8 = p % 8 := Int.tmod_eq_emod_of_nonneg p0
  have w1 : wrap64 (p / 8) = p / 8 := by unfold wrap64; omega
  have w2 : IntKind.u64.wrap (p % 8) = p % 8 := u64_wrap_id _ (by omega) (by omega)
  have g3 : 0 ≤ p / 8 := by omega
  have g4 : p / 8 < (f.length : Int) := by omega
  have g5 : 0 ≤ p % 8 := by omega
  have hb := testB_eq f hf p p0
  rw [t1, t2, w1, w2, if_pos g3, if_pos g4, if_pos g5]
  cases e : testB f p with
  | true =>
    rw [e] at hb
    rw [if_neg (fun z => by cases hb.1 z), if_pos rfl]
  | false =>
    rw [if_pos (hb.2 e), if_neg (by decide)]

theorem has_l0 (f : List Int) (hf : Byt f) (ps : List Int) (hp : ∀ p, p ∈ ps → 0 ≤ p ∧ p < 8 * ((f.length : Int) - 1)) (hl : f.length ≤ 4194304) (hps : ps.length ≤ 1000) (n : Nat) : ∀ (i : Nat) (k : Nat), i + n = ps.length → n < k →
    spec_BloomHas.l0 k f ps (i : Int) = some ((ps.drop i).all (testB f)) := by
  induction n with
  | zero =>
    intro i k hn hk
    obtain ⟨k, rfl⟩ : ∃ q, k = q + 1 := ⟨k - 1, by omega⟩
    have hx : ¬ ((i : Int) < (ps.length : Int)) := by omega
    have e : ps.drop i = [] := List.drop_eq_nil_of_le (by omega)
    rw [e]
    simp only [spec_BloomHas.l0, if_neg hx, List.all_nil]
  | succ n ih =>
    intro i k hn hk
    obtain ⟨k, rfl⟩ : ∃ q, k = q + 1 := ⟨k - 1, by omega⟩
    have hi : i < ps.length := by omega
    have ed : ps.drop i = rd ps (i : Int) :: ps.drop (i + 1) := by
      rw [List.drop_eq_getElem_cons hi]
      simp [rd, List.getD_eq_getElem?_getD, hi]
    have hm : rd ps (i : Int) ∈ ps := by
      unfold rd
      rw [List.getD_eq_getElem?_getD, Int.toNat_natCast, List.getElem?_eq_getElem hi]
      exact List.getElem_mem hi
    have h3 := ih (i + 1) k (by omega) (by omega)
    obtain ⟨p0, p1⟩ := hp _ hm
    have w3 : wrap64 ((i : Int) + 1) = ((i + 1 : Nat) : Int) := by unfold wrap64; omega
    have g1 : (i : Int) < (ps.length : Int) := by omega
    have g2 : 0 ≤ (i : Int) := by omega
    rw [spec_BloomHas.l0, if_pos g1, if_pos g2, has_step f hf _ p0 p1 hl, w3, h3, ed, List.all_cons]
    cases testB f (rd ps (i : Int)) with
    | true => rw [if_pos rfl, Bool.true_and]
    | false => rw [if_neg (by decide), Bool.false_and]

theorem places_len (bits step : Int) : ∀ (n : Nat) (h : Int), (placesI bits step n h).length = n
  | 0, _ => rfl
  | n + 1, h => by simp [placesI, places_len bits step n]

theorem bloomHas (f key : List Int) (hf : Byt f) (hb : Byt key) (hl : f.length ≤ 4194304) (hkl : key.length ≤ 9223372036854775807) (k : Nat) (hk : key.length + 40 ≤ k) : spec_BloomHas.f k f key = some (hasI f key) := by
  unfold spec_BloomHas.f hasI
  by_cases h2 : f.length < 2
  · rw [if_pos (by omega), if_pos h2]
  · rw [if_neg (by omega), if_neg h2]
    have e1 : wrap64 ((f.length : Int) - 1) = (f.length : Int) - 1 := by unfold wrap64; omega
    have hr := rd_byt hf ((f.length : Int) - 1)
    have e2 : wrap64 (rd f ((f.length : Int) - 1)) = rd f ((f.length : Int) - 1) := by unfold wrap64; omega
    have e3 : wrap64 (8 * ((f.length : Int) - 1)) = 8 * ((f.length : Int) - 1) := by unfold wrap64; omega
    simp only [e1, e2, e3]
    rw [if_pos (by omega), if_pos (by omega)]
    by_cases h3 : 30 < rd f ((f.length : Int) - 1)
    · rw [if_pos h3, if_pos h3]
    · rw [if_neg h3, if_neg h3]
      obtain ⟨m, hm⟩ : ∃ m : Nat, rd f ((f.length : Int) - 1) = (m : Int) := ⟨(rd f ((f.length : Int) - 1)).toNat, by omega⟩
      rw [hm, Int.toNat_natCast, bloomPlaces key hb hkl _ (by omega) (by omega) m (by omega) k (by omega) (by omega)]
      simp only [Option.bind_some]
      have := has_l0 f hf (placesI (8 * ((f.length : Int) - 1)) (rotI (bhash key)) m (bhash key)) (fun p hp => places_mem _ _ (by omega) _ _ p hp) hl (by rw [places_len]; omega) m 0 k (by rw [places_len]; omega) (by omega)
      exact this

end Go.Proofs.Ytpdibidfjhjoeaa.Bl
