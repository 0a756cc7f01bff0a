/- FnBloom: the law's walk. -/
import Derived.Test.YtpdibidfjhjoeaaBlSpec
import Derived.Test.YtpdibidfjhjoeaaBlBytes
import Derived.Test.YtpdibidfjhjoeaaOpen
namespace Go.Proofs.Ytpdibidfjhjoeaa.Bl
open Go.RowKit Go.Proofs.YtpdibidfjhjoeaaW.PrintWords Go.Proofs.YtpdibidfjhjoeaaW.PrintMore Go.Proofs.Ytpdibidfjhjoeaa.PFnBloom Go.Proofs.Ytpdibidfjhjoeaa.Open Go.Proofs.Ytpdibidfjhjoeaa.Cmp
set_option linter.unusedVariables false

theorem Bytes_yes {w : World} {A B : Option Addr} {n c m d : Nat} {l k : List Int} (hr : l = k) (h : Kd.C (Kd.int .u8) w A n l) (hc : n ≤ c) (g : Kd.C (Kd.int .u8) w B m k) (hd : m ≤ d) :
    Calls Try.prog 6 #[.slice A n c, .slice B m d] w fun e w' => e = .returned (.bool true) ∧ Below w.heap.size w w' := by
  obtain rfl := Kd.C_len h
  obtain rfl := Kd.C_len g
  refine (spec_Bytes.calls (2 * l.length + 2 * k.length + 2) A c l B d k _ w h hc g hd (OrdersPure.bytes l k (Kd.C_max h) (Kd.C_max g) _ (by omega) (by omega))).mono ?_
  rintro e w' ⟨rfl, hw⟩
  exact ⟨by rw [decide_eq_true hr], hw.below⟩

theorem Has_r {w : World} {A B : Option Addr} {c d : Nat} {f key : List Int} (h : Kd.C (Kd.int .u8) w A f.length f) (hc : f.length ≤ c) (hf : Byt f) (hl : f.length ≤ 4194304) (g : Kd.C (Kd.int .u8) w B key.length key) (hd : key.length ≤ d) (hk : Byt key) :
    Calls Try.prog 9 #[.slice A f.length c, .slice B key.length d] w fun e w' => e = .returned (.bool (hasI f key)) ∧ Below w.heap.size w w' := by
  refine (spec_BloomHas.calls (key.length + 40) A c f B d key _ w h hc g hd (bloomHas f key hf hk hl (Kd.C_max g) _ (Nat.le_refl _))).mono ?_
  rintro e w' ⟨rfl, hw⟩
  exact ⟨rfl, by first | exact hw | exact hw.below⟩

def fitsI (l : List (List Int)) : Bool := decide (l.length ≤ 2147483647) && l.all fun x => decide (x.length ≤ 2147483647)

theorem fits_l0 (l : List (List Int)) (hl : l.length ≤ 2147483647) (d : Nat) : ∀ (i k : Nat), i + d = l.length → d < k → laws_zzFits3.l0 k l (l.length : Int) (i : Int) = some ((l.drop i).all fun x => decide (x.length ≤ 2147483647)) := by
  induction d with
  | zero =>
    intro i k hi hk
    obtain ⟨k, rfl⟩ : ∃ q, k = q + 1 := ⟨k - 1, by omega⟩
    have e : l.drop i = [] := List.drop_eq_nil_of_le (by omega)
    have hx : ¬ ((i : Int) < (l.length : Int)) := by omega
    rw [e]
    simp only [laws_zzFits3.l0, if_neg hx, List.all_nil]
  | succ d ih =>
    intro i k hi hk
    obtain ⟨k, rfl⟩ : ∃ q, k = q + 1 := ⟨k - 1, by omega⟩
    have hlt : i < l.length := by omega
    have e : l.drop i = rd_L1 l (i : Int) :: l.drop (i + 1) := by
      rw [List.drop_eq_getElem_cons hlt]
      simp [rd_L1, List.getD_eq_getElem?_getD, hlt]
    have w1 : wrap64 ((i : Int) + 1) = ((i + 1 : Nat) : Int) := by unfold wrap64; omega
    have h1 : (i : Int) < (l.length : Int) := by omega
    have h0 : 0 ≤ (i : Int) := by omega
    have ih2 := ih (i + 1) k (by omega) (by omega)
    rw [laws_zzFits3.l0, if_pos h1, if_pos h0, if_pos h1, w1, ih2, e, List.all_cons]
    by_cases z : ((rd_L1 l (i : Int)).length : Int) > 2147483647
    · rw [if_pos z, decide_eq_false (by omega), Bool.false_and]
    · rw [if_neg z, decide_eq_true (by omega), Bool.true_and]

theorem fits (l : List (List Int)) (k : Nat) (hk : l.length < k) : laws_zzFits3.f k l = some (fitsI l) := by
  unfold laws_zzFits3.f fitsI
  by_cases z : (l.length : Int) > 2147483647
  · rw [if_pos z, decide_eq_false (by omega), Bool.false_and]
  · rw [if_neg z, decide_eq_true (by omega), Bool.true_and]
    exact fits_l0 l (by omega) l.length 0 k (by omega) hk

theorem Fits_r {w : World} {A : Option Addr} {c : Nat} {l : List (List Int)} (r : Bool) (hr : fitsI l = r) (h : Kd.C RowsK w A l.length l) (hc : l.length ≤ c) :
    Calls Try.prog 4 #[.slice A l.length c] w fun e w' => e = .returned (.bool r) ∧ Below w.heap.size w w' := by
  subst hr
  refine (laws_zzFits3.calls (l.length + 1) A c l _ w h hc (fits l _ (by omega))).mono ?_
  rintro e w' ⟨rfl, hw⟩
  exact ⟨rfl, hw.below⟩

set_option maxHeartbeats 1600000 in
set_option maxRecDepth 100000 in
theorem law_good {w : World} {bits : Int} {A : Option Addr} {c : Nat} {keys : List (List Int)} {F : Option Addr} {d : Nat} {f : List Int} {K : Option Addr} {e : Nat} {key : List Int} (hfit : fitsI keys = true)
    (b0 : 0 ≤ bits) (b1 : bits ≤ 300) (h : Kd.C RowsK w A keys.length keys) (hc : keys.length ≤ c) (hl : keys.length ≤ 65536) (hb : ∀ k ∈ keys, Byt k)
    (hF : Kd.C (Kd.int .u8) w F f.length f) (hd : f.length ≤ d) (hf : Byt f) (hfl : f.length ≤ 1048576) (hK : Kd.C (Kd.int .u8) w K key.length key) (he : key.length ≤ e) (hk : Byt key) (hkl : key.length ≤ 2147483647) :
    Calls Try.prog 3 #[.int .i64 bits, .slice A keys.length c, .slice F f.length d, .slice K key.length e] w fun x w' => x = .returned (.bool true) ∧ Below w.heap.size w w' := by
  have hFit := Fits_r true hfit h hc
  have hMake := fun (w1 : World) (hb1 : Below w.heap.size w w1) => BloomMake_calls b0 b1 (Kd.C_below h hb1) hc hl hb
  have hSpec := fun (w1 : World) (hb1 : Below w.heap.size w w1) => SpecBloom_calls b0 b1 (Kd.C_below h hb1) hc hl hb
  have hH1 := fun (w1 : World) (hb1 : Below w.heap.size w w1) => BloomHas_calls b0 b1 (Kd.C_below hF hb1) hd hf (by omega) (Kd.C_below hK hb1) he hk
  have hH2 := fun (w1 : World) (hb1 : Below w.heap.size w w1) => Has_r (Kd.C_below hF hb1) hd hf (by omega) (Kd.C_below hK hb1) he hk
  have hHas : Hid (∀ k ∈ keys, hasI (bloomI bits keys) k = true) := fun k hk => bloom_has bits keys k hk
  have hBy := Lib.hid (bloom_byt bits keys)
  have hLen : Hid ((bloomI bits keys).length ≤ 4194304) := by
    obtain ⟨S, eS, S8, Sh, _⟩ := size_eq bits keys.length b0 b1 hl
    show (bloomI bits keys).length ≤ 4194304
    rw [bloom_len, eS]
    omega
  have HKS := Lib.hid h
  have HBY := Lib.hid hb
  generalize bloomI bits keys = R at *
  generalize hasI f key = r at *
  clear h hb hF hK hf hk hfit
  generalize hn : keys.length = n at *
  have HN := Lib.hid hn
  clear hn
  have g1 : (f.length : Int) ≤ 2147483647 := by omega
  have g2 : (f.length : Int) ≤ 1048576 := by omega
  generalize f.length = fl at *
  generalize key.length = kl at *
  go_enter Try.func3, Try.ntmps3
  go_wp2_with fail
  refine hFit.mono ?_
  rintro x w1 ⟨rfl, hb1⟩
  go_wp2_with fail
  refine (hMake w1 hb1).mono ?_
  rintro x w2 ⟨M, mc, rfl, hM, hMc, hb2⟩
  have hB2 := Lib.hid (below_then hb1 hb1.size hb2)
  have HM := Lib.hid hM
  have HMC := Lib.hid hMc
  clear hb1 hb2 hM hMc hFit hMake
  go_wp2_with fail
  refine (hSpec w2 hB2.out).mono ?_
  rintro x w3 ⟨Q, qc, rfl, hQ, hQc, hb3⟩
  have hB3 := Lib.hid (below_then hB2.out hB2.out.size hb3)
  have HM3 := Lib.hid (Kd.C_below HM.out hb3)
  have HQ3 := Lib.hid hQ
  have HQC := Lib.hid hQc
  clear hB2 hb3 HM hQ hQc hSpec
  go_wp2_with fail
  refine (Bytes_yes rfl HM3.out HMC.out HQ3.out HQC.out).mono ?_
  rintro x w4 ⟨rfl, hb4⟩
  have hB4 := Lib.hid (below_then hB3.out hB3.out.size hb4)
  have HM4 := Lib.hid (Kd.C_below HM3.out hb4)
  clear hB3 hb4 HM3 HQ3 HQC
  go_wp2_with fail
  refine (hH1 w4 hB4.out).mono ?_
  rintro x w5 ⟨rfl, hb5⟩
  have hB5 := Lib.hid (below_then hB4.out hB4.out.size hb5)
  have HM5 := Lib.hid (Kd.C_below HM4.out hb5)
  clear hB4 hb5 HM4 hH1
  go_wp2_with fail
  refine (hH2 w5 hB5.out).mono ?_
  rintro x w6 ⟨rfl, hb6⟩
  have hB6 := Lib.hid (below_then hB5.out hB5.out.size hb6)
  have HM6 := Lib.hid (Kd.C_below HM5.out hb6)
  clear hB5 hb6 HM5 hH2
  go_wp2
  go_loopw [10] (fun v10 wr => ∃ (i : Nat), v10 = .int .i64 (i : Int) ∧ i ≤ n ∧ Hid (Kd.C (Kd.int .u8) wr M R.length R) ∧ Hid (Below w.heap.size w wr)) (fun v10 _ => n - (intOf v10).toNat)
  case atStart => exact ⟨0, rfl, by omega, HM6, hB6⟩
  case round =>
    obtain ⟨i, rfl, hi, HMr, HB⟩ := hrel
    clear HM6 hB6
    by_cases hkk : (i : Int) < (n : Int)
    · have hin : i < n := by omega
      obtain ⟨ad, X', kc, rfl, hcell, hX', hXc⟩ := row_at (Kd.C_below HKS.out HB.out) i hin
      have hmem : keys.getD i [] ∈ keys := by rw [List.getD_eq_getElem?_getD, List.getElem?_eq_getElem (by rw [HN.out]; exact hin)]; exact List.getElem_mem _
      have hH3 := BloomHas_calls b0 b1 HMr.out HMC.out hBy.out hLen.out hX' hXc (HBY.out _ hmem)
      rw [hHas.out _ hmem] at hH3
      clear hX' hXc hmem
      generalize (keys.getD i []).length = kn at *
      go_wp2_with fail
      refine hH3.mono ?_
      rintro x w7 ⟨rfl, hb7⟩
      have hB7 := Lib.hid (below_then HB.out HB.out.size hb7)
      have HM7 := Lib.hid (Kd.C_below HMr.out hb7)
      go_wp2
      go_roundw
      case rel => exact ⟨i + 1, by simp, by omega, HM7, hB7⟩
      case measure => simp [intOf]; omega
    · go_wp2
      go_ret
      exact ⟨rfl, HB.out⟩

set_option maxHeartbeats 400000 in
theorem law_out1 {w : World} {bits : Int} {A : Option Addr} {c : Nat} {keys : List (List Int)} {F K : Option Addr} {d fl e kl : Nat} (hfit : fitsI keys = false) (h : Kd.C RowsK w A keys.length keys) (hc : keys.length ≤ c) :
    Calls Try.prog 3 #[.int .i64 bits, .slice A keys.length c, .slice F fl d, .slice K kl e] w fun x w' => x = .returned (.bool true) ∧ Below w.heap.size w w' := by
  have hFit := Fits_r false hfit h hc
  clear h hfit
  go_enter Try.func3, Try.ntmps3
  go_wp2_with fail
  refine hFit.mono ?_
  rintro x w1 ⟨rfl, hb1⟩
  go_wp2
  go_ret
  exact ⟨rfl, hb1⟩

set_option maxHeartbeats 800000 in
theorem law_out2 {w : World} {bits : Int} {A : Option Addr} {c : Nat} {keys : List (List Int)} {F K : Option Addr} {d fl e kl : Nat} (hfit : fitsI keys = true) (h : Kd.C RowsK w A keys.length keys) (hc : keys.length ≤ c)
    (hx : ¬ ((fl : Int) ≤ 2147483647 ∧ (kl : Int) ≤ 2147483647 ∧ 0 ≤ bits ∧ bits ≤ 300 ∧ (keys.length : Int) ≤ 65536 ∧ (fl : Int) ≤ 1048576)) :
    Calls Try.prog 3 #[.int .i64 bits, .slice A keys.length c, .slice F fl d, .slice K kl e] w fun x w' => x = .returned (.bool true) ∧ Below w.heap.size w w' := by
  have hFit := Fits_r true hfit h hc
  clear h hfit
  generalize keys.length = n at *
  by_cases c1 : (fl : Int) ≤ 2147483647
  · by_cases c2 : (kl : Int) ≤ 2147483647
    · by_cases c3 : 0 ≤ bits
      · by_cases c4 : bits ≤ 300
        · by_cases c5 : (n : Int) ≤ 65536
          · by_cases c6 : (fl : Int) ≤ 1048576
            · exact absurd ⟨c1, c2, c3, c4, c5, c6⟩ hx
            · clear hx
              go_enter Try.func3, Try.ntmps3
              go_wp2_with fail
              refine hFit.mono ?_
              rintro x w1 ⟨rfl, hb1⟩
              go_wp2
              go_ret
              exact ⟨rfl, hb1⟩
          · clear hx
            go_enter Try.func3, Try.ntmps3
            go_wp2_with fail
            refine hFit.mono ?_
            rintro x w1 ⟨rfl, hb1⟩
            go_wp2
            go_ret
            exact ⟨rfl, hb1⟩
        · clear hx
          go_enter Try.func3, Try.ntmps3
          go_wp2_with fail
          refine hFit.mono ?_
          rintro x w1 ⟨rfl, hb1⟩
          go_wp2
          go_ret
          exact ⟨rfl, hb1⟩
      · clear hx
        go_enter Try.func3, Try.ntmps3
        go_wp2_with fail
        refine hFit.mono ?_
        rintro x w1 ⟨rfl, hb1⟩
        go_wp2
        go_ret
        exact ⟨rfl, hb1⟩
    · clear hx
      go_enter Try.func3, Try.ntmps3
      go_wp2_with fail
      refine hFit.mono ?_
      rintro x w1 ⟨rfl, hb1⟩
      go_wp2
      go_ret
      exact ⟨rfl, hb1⟩
  · clear hx
    go_enter Try.func3, Try.ntmps3
    go_wp2_with fail
    refine hFit.mono ?_
    rintro x w1 ⟨rfl, hb1⟩
    go_wp2
    go_ret
    exact ⟨rfl, hb1⟩

abbrev BytesK : Kd (List Int) := Kd.slice 5 (Kd.int .u8)
abbrev KeysK : Kd (List (List Int)) := Kd.slice 23 BytesK
theorem bytes_opens : Opens Try.prog 23 BytesK (fun l => ∀ z ∈ l, (Lit.int .u8 z).wf = true) := opens_slice Try.underlying23 (by kernel_rfl) (opens_int Try.underlying5)
theorem keys_opens : Opens Try.prog 22 KeysK (fun l => ∀ k ∈ l, ∀ z ∈ k, (Lit.int .u8 z).wf = true) := opens_slice Try.underlying22 (by kernel_rfl) bytes_opens

theorem bloom_row (bits : Int) (A : Option Addr) (n c : Nat) (keys : List (List Int)) (F : Option Addr) (fl d : Nat) (f : List Int) (K : Option Addr) (kl e : Nat) (key : List Int) (w : World)
    (_wf : (Lit.int .i64 bits).wf = true) (h : KeysK.K w keys [.slice A n c]) (hk : ∀ k ∈ keys, ∀ z ∈ k, (Lit.int .u8 z).wf = true)
    (hF : BytesK.K w f [.slice F fl d]) (hf : ∀ z ∈ f, (Lit.int .u8 z).wf = true) (hK : BytesK.K w key [.slice K kl e]) (hky : ∀ z ∈ key, (Lit.int .u8 z).wf = true) :
    Calls Try.prog 3 #[.int .i64 bits, .slice A n c, .slice F fl d, .slice K kl e] w fun x w' => x = .returned (.bool true) ∧ Below w.heap.size w w' := by
  obtain ⟨A', c', e1, hc, hC⟩ := h
  obtain ⟨F', d', e2, hd, hD⟩ := hF
  obtain ⟨K', k', e3, he, hE⟩ := hK
  injection e1 with e1; injection e1 with e11 e12 e13
  injection e2 with e2; injection e2 with e21 e22 e23
  injection e3 with e3; injection e3 with e31 e32 e33
  subst e11 e12 e13 e21 e22 e23 e31 e32 e33
  cases hfit : fitsI keys with
  | false => exact law_out1 hfit hC hc
  | true =>
    by_cases hx : ((f.length : Int) ≤ 2147483647 ∧ (key.length : Int) ≤ 2147483647 ∧ 0 ≤ bits ∧ bits ≤ 300 ∧ (keys.length : Int) ≤ 65536 ∧ (f.length : Int) ≤ 1048576)
    · obtain ⟨c1, c2, c3, c4, c5, c6⟩ := hx
      exact law_good hfit c3 c4 hC hc (by omega) (fun k hkm => byt_wf (hk k hkm)) hD hd (byt_wf hf) (by omega) hE he (byt_wf hky) (by omega)
    · exact law_out2 hfit hC hc hx

end Go.Proofs.Ytpdibidfjhjoeaa.Bl
