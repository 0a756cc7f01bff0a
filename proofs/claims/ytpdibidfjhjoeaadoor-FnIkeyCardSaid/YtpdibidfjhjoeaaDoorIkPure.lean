/- What the reference's BytesCompare, BytesSame, Little, LittleOf, Ikey and IkeyCompare (as printed) tell. -/
import Derived.Test.YtpdibidfjhjoeaaDoorIkSpec
import Derived.Test.YtpdibidfjhjoeaaDoorIkCmp
namespace Go.Proofs.YtpdibidfjhjoeaaDoor.IkPure
open Go.RowKit Go.Proofs.YtpdibidfjhjoeaaDoorW.PrintWords Go.Proofs.YtpdibidfjhjoeaaDoorW.PrintMore Go.Proofs.YtpdibidfjhjoeaaDoor.PFnIkeys Go.Proofs.YtpdibidfjhjoeaaDoor.Cmp Go.Proofs.YtpdibidfjhjoeaaDoor.Le Go.Proofs.YtpdibidfjhjoeaaDoor.Ik Go.Proofs.YtpdibidfjhjoeaaDoor.Sep
set_option linter.unusedVariables false

theorem drop_rd (l : List Int) (i : Nat) (h : i < l.length) : l.drop i = rd l (i : Int) :: l.drop (i + 1) := by
  rw [List.drop_eq_getElem_cons h]
  simp [rd, List.getD_eq_getElem?_getD, h]

theorem wrap_up (i : Nat) (n : Nat) (h : i < n) (hn : n ≤ 9223372036854775807) : wrap64 ((i : Int) + 1) = ((i + 1 : Nat) : Int) := by
  unfold wrap64; omega

theorem cmpI_cons (x y : Int) (l m : List Int) : cmpI (x :: l) (y :: m) = if x < y then -1 else if y < x then 1 else cmpI l m := rfl

theorem cmp_l0 (l m : List Int) (hl : l.length ≤ 9223372036854775807) (d : Nat) : ∀ i : Nat, l.length - i = d → i ≤ l.length → i ≤ m.length → ∀ k, 2 * d + 2 ≤ k →
    spec_BytesCompare.l0 k l m (i : Int) = some (cmpI (l.drop i) (m.drop i)) := by
  induction d with
  | zero =>
    intro i h1 h2 h3 k hk
    obtain ⟨k, rfl⟩ : ∃ q, k = q + 2 := ⟨k - 2, by omega⟩
    have e : l.drop i = [] := List.drop_eq_nil_of_le (by omega)
    simp only [spec_BytesCompare.l0]
    rw [if_neg (by omega)]
    simp only [spec_BytesCompare.j1]
    rw [if_neg (by simp), e]
    rcases Nat.lt_or_ge i m.length with c | c
    · rw [if_pos (by omega), drop_rd m i c]
      rfl
    · rw [if_neg (by omega), if_neg (by omega), List.drop_eq_nil_of_le c]
      rfl
  | succ d ih =>
    intro i h1 h2 h3 k hk
    obtain ⟨k, rfl⟩ : ∃ q, k = q + 2 := ⟨k - 2, by omega⟩
    have hi : i < l.length := by omega
    simp only [spec_BytesCompare.l0]
    rw [if_pos (by omega)]
    simp only [spec_BytesCompare.j1]
    by_cases hm : i < m.length
    · rw [if_pos (by rw [decide_eq_true_iff]; omega), if_pos (by omega), if_pos (by omega), if_pos (by omega), drop_rd l i hi, drop_rd m i hm, cmpI_cons]
      by_cases h : rd l (i : Int) < rd m (i : Int)
      · rw [if_pos h, if_pos h]
      · rw [if_neg h, if_neg h]
        by_cases g : rd l (i : Int) > rd m (i : Int)
        · rw [if_pos g, if_pos g]
        · rw [if_neg g, if_neg g, wrap_up i l.length hi hl, ih (i + 1) (by omega) (by omega) (by omega) k (by omega)]
    · rw [if_neg (by simp; omega), drop_rd l i hi, List.drop_eq_nil_of_le (by omega : m.length ≤ i), if_neg (by omega), if_pos (by omega)]
      rfl

theorem bytesCompare (l m : List Int) (hl : l.length ≤ 9223372036854775807) (k : Nat) (hk : 2 * l.length + 2 ≤ k) : spec_BytesCompare.f k l m = some (cmpI l m) := by
  have h := cmp_l0 l m hl l.length 0 (by omega) (by omega) (by omega) k hk
  simpa [spec_BytesCompare.f] using h

theorem bytesSame (l m : List Int) (hl : l.length ≤ 9223372036854775807) (k : Nat) (hk : 2 * l.length + 2 ≤ k) : spec_BytesSame.f k l m = some (decide (l = m)) := by
  unfold spec_BytesSame.f
  rw [bytesCompare l m hl k hk]
  simp only [Option.bind_some]
  congr 1
  have h2 := @cmpI_zero l m
  by_cases e : l = m
  · simp [e, cmpI_refl]
  · have : ¬ cmpI l m = 0 := fun z => e (h2.1 z)
    simp [e, this]

theorem little_step (k : Nat) (v : Int) (acc : List Int) (j : Nat) (hj : j < 8) (ha : acc.length < 140737488355328) :
    spec_Little.l0 (k + 1) v 8 acc (j : Int) = spec_Little.l0 k v 8 (acc ++ [v / 2 ^ (8 * j) % 256]) ((j + 1 : Nat) : Int) := by
  have e1 : wrap64 (8 * (j : Int)) = 8 * (j : Int) := by unfold wrap64; omega
  have e2 : IntKind.u64.wrap (8 * (j : Int)) = 8 * (j : Int) := u64_wrap_id _ (by omega) (by omega)
  have e3 : shr .u64 v (8 * (j : Int)) = v / 2 ^ (8 * j) := by
    unfold shr
    congr 2
    have : IntKind.u64.bits = 64 := rfl
    rw [this]
    omega
  have e4 : wrap64 ((j : Int) + 1) = ((j + 1 : Nat) : Int) := by unfold wrap64; omega
  rw [spec_Little.l0, e1, e2, e3, e4, if_pos (by omega), if_pos (by omega), if_pos ha]

theorem little (v : Int) (k : Nat) : spec_Little.f (k + 9) v 8 = some (leB v) := by
  unfold spec_Little.f
  have s0 := little_step (k + 8) v [] 0 (by omega) (by simp)
  have s1 := little_step (k + 7) v ([] ++ [v / 2 ^ (8 * 0) % 256]) 1 (by omega) (by simp)
  have s2 := little_step (k + 6) v ([] ++ [v / 2 ^ (8 * 0) % 256] ++ [v / 2 ^ (8 * 1) % 256]) 2 (by omega) (by simp)
  have s3 := little_step (k + 5) v ([] ++ [v / 2 ^ (8 * 0) % 256] ++ [v / 2 ^ (8 * 1) % 256] ++ [v / 2 ^ (8 * 2) % 256]) 3 (by omega) (by simp)
  have s4 := little_step (k + 4) v ([] ++ [v / 2 ^ (8 * 0) % 256] ++ [v / 2 ^ (8 * 1) % 256] ++ [v / 2 ^ (8 * 2) % 256] ++ [v / 2 ^ (8 * 3) % 256]) 4 (by omega) (by simp)
  have s5 := little_step (k + 3) v ([] ++ [v / 2 ^ (8 * 0) % 256] ++ [v / 2 ^ (8 * 1) % 256] ++ [v / 2 ^ (8 * 2) % 256] ++ [v / 2 ^ (8 * 3) % 256] ++ [v / 2 ^ (8 * 4) % 256]) 5 (by omega) (by simp)
  have s6 := little_step (k + 2) v ([] ++ [v / 2 ^ (8 * 0) % 256] ++ [v / 2 ^ (8 * 1) % 256] ++ [v / 2 ^ (8 * 2) % 256] ++ [v / 2 ^ (8 * 3) % 256] ++ [v / 2 ^ (8 * 4) % 256] ++ [v / 2 ^ (8 * 5) % 256]) 6 (by omega) (by simp)
  have s7 := little_step (k + 1) v ([] ++ [v / 2 ^ (8 * 0) % 256] ++ [v / 2 ^ (8 * 1) % 256] ++ [v / 2 ^ (8 * 2) % 256] ++ [v / 2 ^ (8 * 3) % 256] ++ [v / 2 ^ (8 * 4) % 256] ++ [v / 2 ^ (8 * 5) % 256] ++ [v / 2 ^ (8 * 6) % 256]) 7 (by omega) (by simp)
  refine s0.trans (s1.trans (s2.trans (s3.trans (s4.trans (s5.trans (s6.trans (s7.trans ?_)))))))
  rw [spec_Little.l0, if_neg (by decide)]
  simp [leB]

theorem ikeySpec (key : List Int) (seq kt : Int) (hl : key.length ≤ 2147483647) (s0 : 0 ≤ seq) (s1 : seq ≤ 72057594037927935) (k0 : 0 ≤ kt) (k1 : kt ≤ 1) (k : Nat) (hk : 9 ≤ k) :
    spec_Ikey.f k key seq kt = some (ikey key seq kt) := by
  obtain ⟨k, rfl⟩ : ∃ q, k = q + 9 := ⟨k - 9, by omega⟩
  unfold spec_Ikey.f
  rw [u64_wrap_id (seq * 256) (by omega) (by omega), u64_wrap_id kt k0 (by omega), or_low _ _ (by omega) (by omega) (by omega) k0 (by omega), little]
  simp only [Option.bind_some, List.nil_append, List.length_nil]
  rw [if_pos (by omega), if_pos (by rw [leB_len]; omega)]
  rfl

theorem littleOf_step (k : Nat) (l : List Int) (acc : Int) (i : Nat) (hi : i < l.length) (hm : l.length ≤ 9223372036854775807) (a0 : 0 ≤ acc) (a1 : acc < 72057594037927936) (hb : Byt l) :
    spec_LittleOf.l0 (k + 1) l acc (i : Int) = spec_LittleOf.l0 k l (acc * 256 + l.getD i 0) ((i : Int) - 1) := by
  have hg : 0 ≤ l.getD i 0 ∧ l.getD i 0 ≤ 255 := hb _ (getD_mem l i hi)
  have er : rd l (i : Int) = l.getD i 0 := rfl
  rw [spec_LittleOf.l0, if_pos (by omega), if_pos (by omega), if_pos (by omega), er, u64_wrap_id (acc * 256) (by omega) (by omega), u64_wrap_id (l.getD i 0) hg.1 (by omega),
    or_low _ _ (by omega) (by omega) (by omega) hg.1 (by omega)]
  congr 1
  unfold wrap64; omega

theorem littleOf (l : List Int) (h8 : l.length = 8) (hb : Byt l) (k : Nat) : spec_LittleOf.f (k + 9) l = some (leN l) := by
  have g : ∀ j, j < 8 → 0 ≤ l.getD j 0 ∧ l.getD j 0 ≤ 255 := fun j hj => hb _ (getD_mem l j (by omega))
  have g0 := g 0 (by omega)
  have g1 := g 1 (by omega)
  have g2 := g 2 (by omega)
  have g3 := g 3 (by omega)
  have g4 := g 4 (by omega)
  have g5 := g 5 (by omega)
  have g6 := g 6 (by omega)
  have g7 := g 7 (by omega)
  unfold spec_LittleOf.f
  have ew : wrap64 ((l.length : Int) - 1) = ((7 : Nat) : Int) := by unfold wrap64; omega
  rw [ew]
  have hm : l.length ≤ 9223372036854775807 := by omega
  rw [littleOf_step (k + 8) l 0 7 (by omega) hm (by omega) (by omega) hb]
  have d6 : ((7 : Nat) : Int) - 1 = ((6 : Nat) : Int) := rfl
  rw [d6, littleOf_step (k + 7) l _ 6 (by omega) hm (by omega) (by omega) hb]
  have d5 : ((6 : Nat) : Int) - 1 = ((5 : Nat) : Int) := rfl
  rw [d5, littleOf_step (k + 6) l _ 5 (by omega) hm (by omega) (by omega) hb]
  have d4 : ((5 : Nat) : Int) - 1 = ((4 : Nat) : Int) := rfl
  rw [d4, littleOf_step (k + 5) l _ 4 (by omega) hm (by omega) (by omega) hb]
  have d3 : ((4 : Nat) : Int) - 1 = ((3 : Nat) : Int) := rfl
  rw [d3, littleOf_step (k + 4) l _ 3 (by omega) hm (by omega) (by omega) hb]
  have d2 : ((3 : Nat) : Int) - 1 = ((2 : Nat) : Int) := rfl
  rw [d2, littleOf_step (k + 3) l _ 2 (by omega) hm (by omega) (by omega) hb]
  have d1 : ((2 : Nat) : Int) - 1 = ((1 : Nat) : Int) := rfl
  rw [d1, littleOf_step (k + 2) l _ 1 (by omega) hm (by omega) (by omega) hb]
  have d0 : ((1 : Nat) : Int) - 1 = ((0 : Nat) : Int) := rfl
  rw [d0, littleOf_step (k + 1) l _ 0 (by omega) hm (by omega) (by omega) hb]
  rw [spec_LittleOf.l0, if_neg (by omega)]
  congr 1
  unfold leN
  omega

theorem ikeyCompare (x y : List Int) (hx : 8 ≤ x.length) (hy : 8 ≤ y.length) (mx : x.length ≤ 9223372036854775807) (my : y.length ≤ 9223372036854775807) (bx : Byt x) (by' : Byt y) (k : Nat) (hk : 2 * x.length + 20 ≤ k) :
    spec_IkeyCompare.f k x y = some (icmp x y) := by
  obtain ⟨k, rfl⟩ : ∃ q, k = q + 9 := ⟨k - 9, by omega⟩
  unfold spec_IkeyCompare.f
  have e1 : wrap64 ((x.length : Int) - 8) = ((x.length - 8 : Nat) : Int) := by unfold wrap64; omega
  have e2 : wrap64 ((y.length : Int) - 8) = ((y.length - 8 : Nat) : Int) := by unfold wrap64; omega
  rw [e1, e2, Int.toNat_natCast, Int.toNat_natCast, if_pos (by omega), if_pos (by omega), if_pos (by omega), if_pos (by omega),
    bytesCompare _ _ (by rw [List.length_take]; omega) _ (by rw [List.length_take]; omega),
    littleOf _ (by rw [List.length_drop]; omega) (byt_drop bx _), littleOf _ (by rw [List.length_drop]; omega) (byt_drop by' _)]
  simp only [Option.bind_some]
  unfold icmp
  split
  · split
    · rfl
    · split
      · rfl
      · rfl
  · rfl

end Go.Proofs.YtpdibidfjhjoeaaDoor.IkPure
