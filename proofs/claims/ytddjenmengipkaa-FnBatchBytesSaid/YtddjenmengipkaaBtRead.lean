/- Batches: far, high, numbers and sized bytes as they are read. -/
import Derived.Test.YtddjenmengipkaaBtBase
namespace Go.Proofs.Ytddjenmengipkaa.Bt
open Go.RowKit Go.Proofs.YtddjenmengipkaaW.PrintWords Go.Proofs.YtddjenmengipkaaW.PrintMore Go.Proofs.Ytddjenmengipkaa.PFnBatchLoads Go.Proofs.Ytddjenmengipkaa.Cmp
set_option linter.unusedVariables false

theorem getD_mem (l : List Int) (n : Nat) (h : n < l.length) : l.getD n 0 ∈ l := by
  rw [List.getD_eq_getElem?_getD, List.getElem?_eq_getElem h]
  exact List.getElem_mem h

theorem far_step (n : Nat) (l : List Int) (i : Nat) (hi : i < l.length) : farI n (l.drop i) = if l.getD i 0 < 128 then farI 0 (l.drop (i + 1)) else if 9 ≤ n + 1 then true else farI (n + 1) (l.drop (i + 1)) := by
  rw [drop_at l i hi]
  rfl

set_option maxHeartbeats 400000 in
set_option maxRecDepth 100000 in
theorem high_calls {w : World} {A : Option Addr} {c : Nat} {l : List Int} (h : Kd.C (Kd.int .u8) w A l.length l) :
    Calls Try.prog 5 #[.slice A l.length c] w fun e w' => e = .returned (.bool (farI 0 l)) ∧ Below w.heap.size w w' := by
  have HA := Lib.hid h
  have hm := Kd.C_max h
  have hr : Hid (farI 0 (l.drop 0) = farI 0 l) := rfl
  generalize farI 0 l = r at *
  clear h
  generalize hn : l.length = n at *
  have HN := Lib.hid hn
  clear hn
  go_enter Try.func5, Try.ntmps5
  go_wp2
  go_loopw [3, 4] (fun v3 v4 wr => ∃ (m i : Nat), v3 = .int .i64 (m : Int) ∧ v4 = .int .i64 (i : Int) ∧ m ≤ 8 ∧ i ≤ n ∧ Hid (farI m (l.drop i) = r) ∧ Hid (Below w.heap.size w wr)) (fun _ v4 _ => n - (intOf v4).toNat)
  case atStart => exact ⟨0, 0, rfl, rfl, by omega, by omega, hr, Below.refl _ _⟩
  case round =>
    obtain ⟨m, i, rfl, rfl, hm8, hi, HF, HR⟩ := hrel
    clear hr
    by_cases hk : (i : Int) < (n : Int)
    · have hin : i < n := by omega
      obtain ⟨ad, rfl, hcell⟩ := (C_ints (Kd.C_below HA.out HR.out)).2.2 (by omega)
      have k0 := hcell i hin
      have HF2 := HF.out
      rw [far_step m l i (by rw [HN.out]; exact hin)] at HF2
      clear hcell HF
      generalize l.getD i 0 = y at *
      by_cases hy : y < 128
      · rw [if_pos hy] at HF2
        have HF3 := Lib.hid HF2
        clear HF2
        go_wp2
        go_roundw
        case rel => exact ⟨0, i + 1, rfl, by simp, by omega, by omega, HF3, HR⟩
        case measure => simp [intOf]; omega
      · rw [if_neg hy] at HF2
        by_cases h9 : 9 ≤ (m : Int) + 1
        · rw [if_pos (by omega)] at HF2
          subst HF2
          go_wp2
          go_ret
          exact ⟨rfl, HR.out⟩
        · rw [if_neg (by omega)] at HF2
          have HF3 := Lib.hid HF2
          clear HF2
          go_wp2
          go_roundw
          case rel => exact ⟨m + 1, i + 1, by simp, by simp, by omega, by omega, HF3, HR⟩
          case measure => simp [intOf]; omega
    · have hx : r = false := by
        have z := HF.out
        rw [List.drop_eq_nil_of_le (by rw [HN.out]; omega)] at z
        exact z.symm
      subst hx
      go_wp2
      go_ret
      exact ⟨rfl, HR.out⟩

set_option maxHeartbeats 400000 in
set_option maxRecDepth 100000 in
theorem far_calls {w : World} {A : Option Addr} {c : Nat} {l : List Int} (h : Kd.C (Kd.int .u8) w A l.length l) :
    Calls Try.prog 17 #[.slice A l.length c] w fun e w' => e = .returned (.bool (farI 0 l)) ∧ Below w.heap.size w w' := by
  have HA := Lib.hid h
  have hm := Kd.C_max h
  have hr : Hid (farI 0 (l.drop 0) = farI 0 l) := rfl
  generalize farI 0 l = r at *
  clear h
  generalize hn : l.length = n at *
  have HN := Lib.hid hn
  clear hn
  go_enter Try.func17, Try.ntmps17
  go_wp2
  go_loopw [3, 8] (fun v3 v8 wr => ∃ (m i : Nat), v3 = .int .i64 (m : Int) ∧ v8 = .int .i64 (i : Int) ∧ m ≤ 8 ∧ i ≤ n ∧ Hid (farI m (l.drop i) = r) ∧ Hid (Below w.heap.size w wr)) (fun _ v8 _ => n - (intOf v8).toNat)
  case atStart => exact ⟨0, 0, rfl, rfl, by omega, by omega, hr, Below.refl _ _⟩
  case round =>
    obtain ⟨m, i, rfl, rfl, hm8, hi, HF, HR⟩ := hrel
    clear hr
    by_cases hk : (i : Int) < (n : Int)
    · have hin : i < n := by omega
      obtain ⟨ad, rfl, hcell⟩ := (C_ints (Kd.C_below HA.out HR.out)).2.2 (by omega)
      have k0 := hcell i hin
      have HF2 := HF.out
      rw [far_step m l i (by rw [HN.out]; exact hin)] at HF2
      clear hcell HF
      generalize l.getD i 0 = y at *
      by_cases hy : y < 128
      · rw [if_pos hy] at HF2
        have HF3 := Lib.hid HF2
        clear HF2
        go_wp2
        go_roundw
        case rel => exact ⟨0, i + 1, rfl, by simp, by omega, by omega, HF3, HR⟩
        case measure => simp [intOf]; omega
      · rw [if_neg hy] at HF2
        by_cases h9 : 9 ≤ (m : Int) + 1
        · rw [if_pos (by omega)] at HF2
          subst HF2
          go_wp2
          go_ret
          exact ⟨rfl, HR.out⟩
        · rw [if_neg (by omega)] at HF2
          have HF3 := Lib.hid HF2
          clear HF2
          go_wp2
          go_roundw
          case rel => exact ⟨m + 1, i + 1, by simp, by simp, by omega, by omega, HF3, HR⟩
          case measure => simp [intOf]; omega
    · have hx : r = false := by
        have z := HF.out
        rw [List.drop_eq_nil_of_le (by rw [HN.out]; omega)] at z
        exact z.symm
      subst hx
      go_wp2
      go_ret
      exact ⟨rfl, HR.out⟩

theorem and127 (b : Int) (h0 : 0 ≤ b) (h1 : b ≤ 255) : Go.bits .and .u8 b 127 = b % 128 := by
  rw [u8_and b 127 h0 (by omega) (by decide) (by decide)]
  have := Nat.and_two_pow_sub_one_eq_mod b.toNat 7
  simp at this
  have e : (127 : Int).toNat = 127 := rfl
  rw [e, this]
  omega

theorem shl_at (b : Int) (i : Nat) (hi : i ≤ 8) (b0 : 0 ≤ b) (b1 : b < 128) : shl .u64 b (7 * (i : Int)) = b * 2 ^ (7 * i) := by
  have h := (or_pow 0 b i hi (Int.le_refl 0) (Int.pow_pos (by decide)) b0 b1).2.2
  unfold shl
  have e : (7 * (i : Int)).toNat = 7 * i := by omega
  have e2 : IntKind.u64.bits = 64 := rfl
  rw [e, e2, Nat.min_eq_left (by omega)]
  exact u64_wrap_id _ h.1 h.2

def told (r : Option (Int × Nat)) : Int × Int := match r with
  | none => (0, 0)
  | some r => (r.1, (r.2 : Int))

theorem uvarint_l0 (l : List Int) (hb : Byt l) (hl : l.length ≤ 4294967296) (d : Nat) : ∀ (i k : Nat) (x : Int), l.length - i = d → i ≤ l.length → i ≤ 8 → farI i (l.drop i) = false → 0 ≤ x → x < 2 ^ (7 * i) → d < k →
    binary_Uvarint.l0 k x (7 * (i : Int)) l (l.length : Int) (i : Int) = some (told (uvAt x i l)) := by
  induction d with
  | zero =>
    intro i k x hd hi h8 hf x0 x1 hk
    obtain ⟨k, rfl⟩ : ∃ q, k = q + 1 := ⟨k - 1, by omega⟩
    have g : ¬ ((i : Int) < (l.length : Int)) := by omega
    rw [uvAt_end x i l (by omega)]
    simp only [binary_Uvarint.l0, if_neg g, told]
  | succ d ih =>
    intro i k x hd hi h8 hf x0 x1 hk
    obtain ⟨k, rfl⟩ : ∃ q, k = q + 1 := ⟨k - 1, by omega⟩
    have hlt : i < l.length := by omega
    have g1 : (i : Int) < (l.length : Int) := by omega
    have g2 : 0 ≤ (i : Int) := by omega
    have g3 : ¬ ((i : Int) = 10) := by omega
    have g4 : ¬ ((i : Int) = 9) := by omega
    have g5 : 0 ≤ 7 * (i : Int) := by omega
    have w1 : wrap64 ((i : Int) + 1) = ((i + 1 : Nat) : Int) := by unfold wrap64; omega
    obtain ⟨r0, r1⟩ := rd_byt hb (i : Int)
    rw [far_step i l i hlt] at hf
    have er : l.getD i 0 = rd l (i : Int) := rfl
    rw [er] at hf
    by_cases hc : rd l (i : Int) < 128
    · have wb : IntKind.u64.wrap (rd l (i : Int)) = rd l (i : Int) := u64_wrap_id _ r0 (by omega)
      have hor := (or_pow x (rd l (i : Int)) i h8 x0 x1 r0 hc).1
      rw [binary_Uvarint.l0, if_pos g1, if_pos g2, if_pos g1, if_neg g3, if_pos hc, if_neg g4, if_pos g5, wb, shl_at _ i h8 r0 hc, hor, w1, uvAt_last x i l hlt hc]
      rfl
    · rw [if_neg hc] at hf
      by_cases h9 : 9 ≤ i + 1
      · rw [if_pos h9] at hf; cases hf
      · rw [if_neg h9] at hf
        have ea : Go.bits .and .u8 (rd l (i : Int)) 127 = rd l (i : Int) - 128 := by rw [and127 _ r0 r1]; omega
        have wb : IntKind.u64.wrap (rd l (i : Int) - 128) = rd l (i : Int) - 128 := u64_wrap_id _ (by omega) (by omega)
        have ho := or_pow x (rd l (i : Int) - 128) i h8 x0 x1 (by omega) (by omega)
        have ws : IntKind.u64.wrap (7 * (i : Int) + 7) = 7 * ((i + 1 : Nat) : Int) := by rw [u64_wrap_id _ (by omega) (by omega)]; omega
        rw [binary_Uvarint.l0, if_pos g1, if_pos g2, if_pos g1, if_neg g3, if_neg hc, if_pos g5, ea, wb, shl_at _ i h8 (by omega) (by omega), ho.1, ws, w1]
        rw [ih (i + 1) k _ (by omega) (by omega) (by omega) hf (by have := ho.2.2.1; omega) ho.2.1 (by omega), uvAt_step x i l hlt hc]

theorem uvarint (l : List Int) (hb : Byt l) (hl : l.length ≤ 4294967296) (hf : farI 0 l = false) (k : Nat) (hk : l.length < k) : binary_Uvarint.f k l = some (told (uvI l)) := by
  have := uvarint_l0 l hb hl l.length 0 k 0 (by omega) (by omega) (by omega) hf (Int.le_refl 0) (by decide) hk
  rw [uvAt_zero] at this
  exact this

theorem Uvarint_r {w : World} {A : Option Addr} {n c : Nat} {l : List Int} (h : Kd.C (Kd.int .u8) w A n l) (hc : n ≤ c) (hb : Byt l) (hl : n ≤ 4294967296) (hf : farI 0 l = false) :
    Calls Try.prog 40 #[.slice A n c] w fun e w' => e = .returned (.tuple #[.int .u64 (told (uvI l)).1, .int .i64 (told (uvI l)).2]) ∧ Below w.heap.size w w' := by
  obtain rfl := Kd.C_len h
  refine (binary_Uvarint.calls (l.length + 1) A c l _ _ w h hc (uvarint l hb hl hf _ (by omega))).mono ?_
  rintro e w' ⟨rfl, hw⟩
  exact ⟨rfl, hw.below⟩

end Go.Proofs.Ytddjenmengipkaa.Bt
