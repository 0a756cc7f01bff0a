/- A filter asked for a key: bloomFilter.Contains, impl.BloomHas. -/
import Derived.Test.YtpdibidfjhjoeaaBlHash
namespace Go.Proofs.Ytpdibidfjhjoeaa.Bl
open Go.RowKit Go.Proofs.YtpdibidfjhjoeaaW.PrintWords Go.Proofs.YtpdibidfjhjoeaaW.PrintMore Go.Proofs.Ytpdibidfjhjoeaa.Cmp
set_option linter.unusedVariables false

theorem and_test (y s : Int) (y0 : 0 ≤ y) (y1 : y ≤ 255) (s0 : 0 ≤ s) (s1 : s < 8) : Go.bits .and .u32 y (2 ^ s.toNat % 4294967296) = 0 ↔ y.toNat.testBit s.toNat = false := by
  have hp : (2 : Nat) ^ s.toNat ≤ 2 ^ 7 := Nat.pow_le_pow_right (by decide) (by omega)
  have e : ((2 : Int) ^ s.toNat % 4294967296) = ((2 ^ s.toNat : Nat) : Int) := by
    rw [Int.natCast_pow]
    have : ((2 ^ s.toNat : Nat) : Int) = (2 : Int) ^ s.toNat := Int.natCast_pow 2 _
    have h2 : ((2 ^ s.toNat : Nat) : Int) ≤ 128 := by omega
    have h3 : (0 : Int) ≤ ((2 ^ s.toNat : Nat) : Int) := Int.natCast_nonneg _
    rw [this] at h2 h3
    show (2 : Int) ^ s.toNat % 4294967296 = (2 : Int) ^ s.toNat
    omega
  rw [e, u32_and y _ y0 (by omega) (by omega) (by omega), Int.toNat_natCast]
  constructor
  · intro h
    have h0 : y.toNat &&& 2 ^ s.toNat = 0 := by omega
    have h1 := congrArg (fun n => n.testBit s.toNat) h0
    simpa [Nat.testBit_and, Nat.testBit_two_pow] using h1
  · intro h
    have h0 : y.toNat &&& 2 ^ s.toNat = 0 := by
      apply Nat.eq_of_testBit_eq
      intro i
      rw [Nat.testBit_and, Nat.testBit_two_pow, Nat.zero_testBit]
      by_cases e : s.toNat = i
      · subst e; simp [h]
      · simp [e]
    omega

set_option maxHeartbeats 800000 in
set_option maxRecDepth 100000 in
theorem Contains_calls {w : World} {bits : Int} {F : Option Addr} {c : Nat} {f : List Int} {K : Option Addr} {d : Nat} {key : List Int} (h : Kd.C (Kd.int .u8) w F f.length f) (hc : f.length ≤ c) (hf : Byt f) (hl : f.length ≤ 4194304)
    (g : Kd.C (Kd.int .u8) w K key.length key) (hd : key.length ≤ d) (hk : Byt key) :
    Calls Try.prog 34 #[.int .i64 bits, .slice F f.length c, .slice K key.length d] w fun e w' => e = .returned (.bool (hasI f key)) ∧ Below w.heap.size w w' := by
  have HF := Lib.hid h
  have HB := Lib.hid hf
  have hH := bloomHash_calls g hd hk
  have hh := bhash_range key
  have hr := rot_range (bhash key) hh.1 hh.2
  have he : Hid (hasI f key = if f.length < 2 then false else if 30 < rd f ((f.length : Int) - 1) then true
    else (placesI (8 * ((f.length : Int) - 1)) (rotI (bhash key)) (rd f ((f.length : Int) - 1)).toNat (bhash key)).all (testB f)) := rfl
  generalize hasI f key = r at *
  generalize hn : f.length = n at *
  have HN := Lib.hid hn
  clear hn h g hf hk
  by_cases h2 : n < 2
  · have hx : r = false := by rw [he.out, if_pos h2]
    subst hx
    have h2' : (n : Int) - 1 < 1 := by omega
    go_enter Try.func34, Try.ntmps34
    go_wp2
    go_ret
    exact ⟨rfl, Below.refl _ _⟩
  · have h2' : ¬ ((n : Int) - 1 < 1) := by omega
    rw [if_neg h2] at he
    obtain ⟨q, rfl⟩ : ∃ q, n = q + 1 := ⟨n - 1, by omega⟩
    obtain ⟨ad, rfl, hcell⟩ := (C_ints HF.out).2.2 (by omega)
    have kq := hcell q (by omega)
    have eq : (((q + 1 : Nat) : Int) - 1) = (q : Int) := by omega
    rw [eq] at he
    have erd : rd f (q : Int) = f.getD q 0 := rfl
    rw [erd] at he
    have bq := HB.out (f.getD q 0) (getD_mem f q (by rw [HN.out]; omega))
    obtain ⟨m, hm⟩ : ∃ m : Nat, f.getD q 0 = (m : Int) := ⟨(f.getD q 0).toNat, by omega⟩
    rw [hm] at he kq bq
    clear hm erd hcell
    by_cases h3 : 30 < (m : Int)
    · have hx : r = true := by rw [he.out, if_pos h3]
      subst hx
      go_enter Try.func34, Try.ntmps34
      go_wp2
      go_ret
      exact ⟨rfl, Below.refl _ _⟩
    · rw [if_neg h3, Int.toNat_natCast] at he
      generalize bhash key = hv at *
      have he2 := Lib.hid he.out.symm
      clear he
      go_enter Try.func34, Try.ntmps34
      go_wp2_with fail
      refine hH.mono ?_
      rintro e w1 ⟨rfl, hb1⟩
      go_wp2
      rw [show (Go.bits BinOp.or IntKind.u32 (hv / 131072) (hv * 32768 % 4294967296)) = rotI hv from rfl]
      rw [show 8 * (q : Int) = (q : Int) * 8 from Int.mul_comm _ _] at he2
      generalize rotI hv = st at *
      go_loopw [10, 12] (fun v10 v12 wr => ∃ (x : Int) (j : Nat), v10 = .int .u32 x ∧ v12 = .int .u8 (j : Int) ∧ 0 ≤ x ∧ x < 4294967296 ∧ j ≤ m ∧ Hid ((placesI ((q : Int) * 8) st (m - j) x).all (testB f) = r) ∧ Hid (Below w.heap.size w wr)) (fun _ v12 _ => m - (intOf v12).toNat)
      case atStart => exact ⟨hv, 0, rfl, rfl, hh.1, hh.2, by omega, he2, hb1⟩
      case round =>
        obtain ⟨x, j, rfl, rfl, x0, x1, hj, HX, HR⟩ := hrel
        clear he2 hb1 hh kq
        by_cases hk : (j : Int) < (m : Int)
        · obtain ⟨k, hk2⟩ : ∃ k, m - j = k + 1 := ⟨m - j - 1, by omega⟩
          rw [hk2] at HX
          have q0 : 0 < (q : Int) * 8 := by omega
          have p0 := Int.emod_nonneg x (show (q : Int) * 8 ≠ 0 by omega)
          have p1 := Int.emod_lt_of_pos x q0
          have HX2 : Hid ((testB f (x % ((q : Int) * 8)) && (placesI ((q : Int) * 8) st k ((x + st) % 4294967296)).all (testB f)) = r) := HX
          have hcell := (C_ints (Kd.C_below HF.out HR.out)).2.2 (by omega)
          obtain ⟨ad', e', hcell⟩ := hcell
          obtain rfl : ad = ad' := Option.some.inj e'
          generalize hp : x % ((q : Int) * 8) = p at *
          have kp := hcell (p / 8).toNat (by omega)
          have bp := HB.out (f.getD (p / 8).toNat 0) (getD_mem f _ (by rw [HN.out]; omega))
          have et : Hid (testB f p = (f.getD (p / 8).toNat 0).toNat.testBit (p % 8).toNat) := rfl
          generalize f.getD (p / 8).toNat 0 = y at *
          clear hcell HX
          obtain ⟨b0, b1⟩ := bp
          have at_ := and_test y (p % 8) b0 b1 (by omega) (by omega)
          rw [← et.out] at at_
          cases ht : testB f p with
          | false =>
            have hz : (Go.bits BinOp.and IntKind.u32 y (2 ^ (p % 8).toNat % 4294967296) == 0) = true := beq_iff_eq.2 (at_.2 ht)
            rw [ht, Bool.false_and] at HX2
            have hx : false = r := HX2
            subst hx
            clear at_
            go_wp2
            go_ret
            exact ⟨rfl, HR.out⟩
          | true =>
            have hz : (Go.bits BinOp.and IntKind.u32 y (2 ^ (p % 8).toNat % 4294967296) == 0) = false := beq_eq_false_iff_ne.2 (fun z => by rw [at_.1 z] at ht; cases ht)
            rw [ht, Bool.true_and] at HX2
            clear at_
            go_wp2
            have ek : m - (j + 1) = k := by omega
            go_roundw
            case rel => exact ⟨_, j + 1, rfl, by simp, by omega, by omega, by omega, by rw [ek]; exact HX2, HR⟩
            case measure => simp [intOf]; omega
        · have e0 : m - j = 0 := by omega
          rw [e0] at HX
          have hx : true = r := HX
          subst hx
          go_wp2
          go_ret
          exact ⟨rfl, HR.out⟩

attribute [local go_sem] max2_int min2_int max_two min_two max_three min_three max_four min_four

theorem New_calls (bits : Int) (w : World) :
    Calls Try.prog 10 #[.int .i64 bits] w fun e w' => e = .returned (.iface 46 (.int .i64 bits)) ∧ w = w' := by
  go_enter Try.func10, Try.ntmps10
  go_wp2
  go_ret
  exact ⟨rfl, rfl⟩

set_option maxHeartbeats 400000 in
theorem BloomHas_calls {w : World} {bits : Int} {F : Option Addr} {c : Nat} {f : List Int} {K : Option Addr} {d : Nat} {key : List Int} (b0 : 0 ≤ bits) (b1 : bits ≤ 300) (h : Kd.C (Kd.int .u8) w F f.length f) (hc : f.length ≤ c) (hf : Byt f) (hl : f.length ≤ 4194304)
    (g : Kd.C (Kd.int .u8) w K key.length key) (hd : key.length ≤ d) (hk : Byt key) :
    Calls Try.prog 8 #[.int .i64 bits, .slice F f.length c, .slice K key.length d] w fun e w' => e = .returned (.bool (hasI f key)) ∧ Below w.heap.size w w' := by
  have hC := Contains_calls (bits := bits) h hc hf hl g hd hk
  generalize hasI f key = r at *
  clear h g hf hk
  have e1 : (if 1000 < bits then 1000 else bits) = bits := if_neg (by omega)
  have e2 : (if 0 < bits then bits else 0) = bits := by split <;> omega
  go_enter Try.func8, Try.ntmps8
  go_wp2_with (first | (go_at_call 10; refine (New_calls bits _).mono ?_; rintro e w' ⟨rfl, rfl⟩) | (go_at_call 34; refine hC.mono ?_; rintro e w1 ⟨rfl, hb1⟩))
  go_ret
  exact ⟨rfl, hb1⟩

end Go.Proofs.Ytpdibidfjhjoeaa.Bl
