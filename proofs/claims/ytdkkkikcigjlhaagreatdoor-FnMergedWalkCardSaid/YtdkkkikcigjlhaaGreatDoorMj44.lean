/- The law FnMergedWalk, walked: it answers true, whatever the input. FnMergedWalk's walk, from arguments that are read as data. -/
import Derived.Test.YtdkkkikcigjlhaaGreatDoorMj43
import Derived.Test.YtdkkkikcigjlhaaGreatDoorMj15
import Derived.Test.YtdkkkikcigjlhaaGreatDoorMj33
set_option linter.unusedVariables false
set_option linter.unusedSimpArgs false
namespace Go.Proofs.YtdkkkikcigjlhaaGreatDoor.Md
open Go.RowKit Go.Proofs.YtdkkkikcigjlhaaGreatDoor.Con Go.Proofs.YtdkkkikcigjlhaaGreatDoor.Run Go.Proofs.YtdkkkikcigjlhaaGreatDoorW.PrintWords Go.Proofs.YtdkkkikcigjlhaaGreatDoorW.PrintMore Go.Proofs.YtdkkkikcigjlhaaGreatDoor.Cmp Go.Sort Go.RwLone Go.Proofs.YtdkkkikcigjlhaaGreatDoor.PFnMemMap

def GaAt (r : List S36) (W : World) (v : Value) : Prop := ∃ A c, v = .slice A r.length c ∧ r.length ≤ c ∧ Kd.F k36 W (fun k => k < W.heap.size) A r.length r
theorem GaAt.below {r : List S36} {W W1 : World} {v : Value} (h : GaAt r W v) (hb : Below W.heap.size W W1) : GaAt r W1 v := by
  obtain ⟨A, c, rfl, h1, h2⟩ := h
  exact ⟨A, c, rfl, h1, Kd.F_mono (Kd.F_below h2 hb) (fun k hk => Nat.lt_of_lt_of_le hk hb.size)⟩

theorem mem_parts {LL : List (List S44)} {j p : Nat} {x : List S44} (hx : x ∈ LL) {P : S44 → Prop} (h : ∀ l ∈ LL, ∀ y ∈ l, P y) : ∀ y ∈ (LL.take j).flatten ++ x.take p, P y := by
  intro y hy
  rcases List.mem_append.1 hy with hy | hy
  · obtain ⟨l, hl, hyl⟩ := List.mem_flatten.1 hy
    exact h l (List.mem_of_mem_take hl) y hyl
  · exact h x hx y (List.mem_of_mem_take hy)

set_option maxHeartbeats 12800000 in
set_option maxRecDepth 100000 in
theorem mergedWalk_law {w : World} {A Am : Option Addr} {c cm : Nat} {LL : List (List S44)} {ms : List S104} (o0 : Int) (hA : Kd.C kLL w A LL.length LL) (hc : LL.length ≤ c) (hb : ∀ l ∈ LL, ∀ x ∈ l, Byt x.f0 ∧ Byt x.f1) (hM : Kd.C k104 w Am ms.length ms) (hcm : ms.length ≤ cm) (hbM : ∀ m ∈ ms, Byt m.f1) :
    Calls Tryz.prog 6 #[.int .i64 o0, .slice A LL.length c, .slice Am ms.length cm] w fun e w' => e = .returned (.bool true) ∧ Below w.heap.size w w' := by
  generalize hn : LL.length = n at *
  have HNN := Lib.hid hn
  have HA := Lib.hid (And.intro (Kd.C_F heap_kLL hA) (And.intro hc hb))
  have HM := Lib.hid (And.intro (Kd.C_F heap_k104 hM) (And.intro hcm hbM))
  clear hA hc hb hM hcm hbM hn
  go_enter Tryz.func6, Tryz.ntmps6
  go_wp2_with fail
  refine (fits27_calls HNN.out HA.out.1 HA.out.2.1).mono ?_
  rintro e w1 ⟨b, rfl, HB, hb1⟩
  have HB1 := Lib.hid hb1
  clear hb1
  cases b with
  | false =>
    go_wp2
    go_ret
    exact ⟨rfl, HB1.out⟩
  | true =>
    have hlx := HB.out rfl
    have HLX := Lib.hid hlx
    clear HB hlx
    go_wp2_with fail
    refine (fits22_calls (Kd.F_now (Kd.F_below HM.out.1 HB1.out)) HM.out.2.1).mono ?_
    rintro e w2 ⟨b, rfl, HB, hb2⟩
    have HB2 := Lib.hid (HB1.out.trans (hb2.mono HB1.out.size))
    clear hb2
    cases b with
    | false =>
      go_wp2
      go_ret
      exact ⟨rfl, HB2.out⟩
    | true =>
      have hmx := HB.out rfl
      have HMX := Lib.hid hmx
      clear HB hmx
      go_wp2_with fail
      refine (fewPairs_calls (ms := ms) HNN.out (Kd.F_below HA.out.1 HB2.out) (fun k hk => Nat.lt_of_lt_of_le hk HB2.out.size) rfl (Kd.F_below HM.out.1 HB2.out) (fun k hk => Nat.lt_of_lt_of_le hk HB2.out.size) HLX.out.1 (fun x hx => (HLX.out.2 x hx).1) HMX.out.1).mono ?_
      rintro e w4 ⟨rfl, hb4⟩
      have HB4 := Lib.hid (HB2.out.trans (hb4.mono HB2.out.size))
      clear hb4
      cases hfew : few LL ms with
      | false =>
        go_wp2
        go_ret
        exact ⟨rfl, HB4.out⟩
      | true =>
        have hfc := few_cnt hfew
        rw [HNN.out] at hfc
        have HFC := Lib.hid hfc
        clear hfc hfew
        have ho := ord3 o0
        go_wp2_with fail
        generalize wrap64 ((IntKind.u64.wrap o0).tmod 3) = o at *
        have HO := Lib.hid ho
        clear ho
        go_loopg [7, 8] n (fun k v7 v8 w' => ∃ j : Nat, v8 = .int .i64 (j : Int) ∧ Hid (j ≤ n ∧ n ≤ j + k) ∧ Hid (GaAt (putsC (cmpO o) (LL.take j).flatten) w' v7) ∧ Hid (Fresh (cmpO o) (LL.take j).flatten ∧ ∀ l ∈ LL.take j, risesL (cmpO o) (kvS l) = true) ∧ Hid (Below w4.heap.size w4 w'))
        case atStart => exact ⟨0, rfl, Lib.hid ⟨Nat.zero_le _, by omega⟩, Lib.hid ⟨none, 0, rfl, Nat.le_refl _, Kd.F_nil _ _ _⟩, Lib.hid ⟨Fresh.nil, fun l hl => by simp at hl⟩, Lib.hid (Below.refl _ _)⟩
        case round =>
          obtain ⟨j, rfl, HJ, HG, HFS, HBL⟩ := hrel
          obtain ⟨g0, hg0⟩ : ∃ g0, g0 = gk := ⟨gk, rfl⟩
          subst hg0
          have HBW := Lib.hid (HB4.out.trans (HBL.out.mono HB4.out.size))
          by_cases hj : j < n
          · obtain ⟨ad, A1, c1, rfl, r0, hl1, hF1⟩ := LL_at (Kd.F_below HA.out.1 HBW.out) hj rfl
            have hj' : j < LL.length := by rw [HNN.out]; exact hj
            have HTK := Lib.hid (flat_take (LL := LL) (j := j) hj' rfl)
            have htot := off_in_le LL j hj'
            have HMX2 := Lib.hid (mem_at2 (LL := LL) HNN.out hj)
            have HX := Lib.hid (And.intro hl1 hF1)
            have HR0 := Lib.hid r0
            generalize LL.getD j [] = x at *
            have HLL := Lib.hid (show ∀ l ∈ LL, ∀ y ∈ l, y.f0.length ≤ 4294967296 ∧ y.f1.length ≤ 4294967296 from fun l hl y hy => by have := (HLX.out.2 l hl).2 y hy; omega)
            have HCN := Lib.hid (show (LL.take j).flatten.length + x.length ≤ 4096 by have := HFC.out.2.1; omega)
            have y0 : decide ((j : Int) < (n : Int)) = true := decide_eq_true (by omega)
            have y1 : (j : Int) < (n : Int) := by omega
            have HJL := Lib.hid (And.intro hj HJ.out.2)
            have w1' : wrap64 ((j : Int) + 1) = (j : Int) + 1 := wz (by omega) (by have := HFC.out.1; omega)
            have HRS := Lib.hid (show ∀ (W : World) (A5 : Option Addr) (c5 : Nat) (ok5 : Nat → Prop), Kd.F k36 W ok5 A5 x.length (asC x) → x.length ≤ c5 → Calls Tryz.prog 25 #[.int .i64 o, .slice A5 x.length c5] W fun e w' => e = .returned (.bool (risesL (cmpO o) (kvS x))) ∧ Below W.heap.size W w' from fun W A5 c5 ok5 h1 h2 => by
              have := rises_calls o (Kd.F_now h1) (asC_len x) h2 (asC_all (fun y hy => HLL.out x HMX2.out y hy)) (by have := HCN.out; omega)
              rw [asC_kv] at this
              exact this)
            clear hl1 hF1 htot hj' hj
            cases hri : risesL (cmpO o) (kvS x) with
            | false =>
              have HRI := Lib.hid hri
              clear hri
              go_wp2_with (first
                | (go_at_call 26; (with_reducible refine (pairs_calls HX.out.2 HX.out.1 (by have := HCN.out; omega)).mono ?_); rintro e w5 ⟨A5, c5, rfl, hc5, hF5, hb5⟩; have HBL5 := Lib.hid (HBL.out.trans (hb5.mono HBL.out.size)); clear hb5)
                | (go_at_call 25; (with_reducible refine (HRS.out _ _ _ _ hF5 hc5).mono ?_); rintro e w7 ⟨rfl, hb7⟩; rw [HRI.out]; have HBL7 := Lib.hid (HBL5.out.trans (hb7.mono HBL5.out.size)); clear hb7))
              go_ret
              exact ⟨rfl, HB4.out.trans (HBL7.out.mono HB4.out.size)⟩
            | true =>
              have HRI := Lib.hid hri
              clear hri
              go_wp2_with (first
                | (go_at_call 26; (with_reducible refine (pairs_calls HX.out.2 HX.out.1 (by have := HCN.out; omega)).mono ?_); rintro e w5 ⟨A5, c5, rfl, hc5, hF5, hb5⟩; have HR5 := Lib.hid hb5; clear hb5)
                | (go_at_call 25; (with_reducible refine (HRS.out _ _ _ _ hF5 hc5).mono ?_); rintro e w7 ⟨rfl, hb7⟩; rw [HRI.out]; have HR7 := Lib.hid (HR5.out.trans (hb7.mono HR5.out.size)); clear hb7))
              have HBW7 := Lib.hid (HBW.out.trans (HR7.out.mono HBW.out.size))
              have HBL7 := Lib.hid (HBL.out.trans (HR7.out.mono HBL.out.size))
              have HG7 := Lib.hid (HG.out.below HR7.out)
              have HX7 := Lib.hid (Kd.F_mono (Kd.F_below HX.out.2 HR7.out) (fun k (hk : k < w.heap.size) => hk))
              have HQ7 := Lib.hid (pw_cell_below HR7.out HR0.out)
              have HXL := Lib.hid HX.out.1
              clear r0 hF5 hc5
              go_loopg [7, 9] x.length (fun k v7 v9 w' => ∃ p : Nat, v9 = .int .i64 (p : Int) ∧ Hid (p ≤ x.length ∧ x.length ≤ p + k) ∧ Hid (GaAt (putsC (cmpO o) ((LL.take j).flatten ++ x.take p)) w' v7) ∧ Hid (Fresh (cmpO o) ((LL.take j).flatten ++ x.take p)) ∧ Hid (Below w7.heap.size w7 w'))
              case atStart => exact ⟨0, rfl, Lib.hid ⟨Nat.zero_le _, by omega⟩, Lib.hid (by rw [List.take_zero, List.append_nil]; exact HG7.out), Lib.hid (by rw [List.take_zero, List.append_nil]; exact HFS.out.1), Lib.hid (Below.refl _ _)⟩
              case round =>
                obtain ⟨p, rfl, HP, HGI, HFI, HBI⟩ := hrel
                by_cases hp : p < x.length
                · obtain ⟨y, hy⟩ : ∃ y, x.getD p (⟨[], []⟩ : S44) = y := ⟨_, rfl⟩
                  have hmem : y ∈ x := by rw [← hy]; exact s_mem hp _
                  have HBX := Lib.hid (HBW7.out.trans (HBI.out.mono HBW7.out.size))
                  obtain ⟨adx, K, kc, V, vc, hAA, k0, l0, hKF, hVF, hkc, hvc⟩ := kv_at (Kd.F_below HX7.out HBI.out) hp hy
                  subst hAA
                  have q0 := pw_cell_below HBI.out HQ7.out
                  have htk := sp_take hp (⟨[], []⟩ : S44)
                  rw [hy] at htk
                  have e9 : (LL.take j).flatten ++ x.take (p + 1) = ((LL.take j).flatten ++ x.take p) ++ [y] := by rw [htk, List.append_assoc]
                  have hkv9 := putsC_kv (ord_cmpO o) ((LL.take j).flatten ++ x.take p)
                  have HS9 : Hid (putsC (cmpO o) ((LL.take j).flatten ++ x.take (p + 1)) = putC (cmpO o) y.f0 y.f1 (putsC (cmpO o) ((LL.take j).flatten ++ x.take p))) := Lib.hid (by rw [e9, putsC_snoc])
                  obtain ⟨ht, hht⟩ : ∃ ht, hitL (cmpO o) y.f0 (kvC (putsC (cmpO o) ((LL.take j).flatten ++ x.take p))) = ht := ⟨_, rfl⟩
                  have HNEW := Lib.hid (show ht = false → Fresh (cmpO o) ((LL.take j).flatten ++ x.take (p + 1)) from fun h0 => by
                    rw [e9]
                    exact HFI.out.snoc (ord_cmpO o) (by rw [← hkv9, hht, h0]))
                  obtain ⟨A9, c9, hv9, hc9, hF9⟩ := HGI.out
                  subst hv9
                  have hlen9 : (putsC (cmpO o) ((LL.take j).flatten ++ x.take p)).length ≤ 4294967296 := by
                    have h1 := putsC_len (cmpO o) ((LL.take j).flatten ++ x.take p)
                    rw [List.length_append, List.length_take] at h1
                    have := HCN.out
                    omega
                  have hall9 : ∀ y ∈ putsC (cmpO o) ((LL.take j).flatten ++ x.take p), y.f0.length ≤ 4294967296 := putsC_all (p := fun y => y.f0.length ≤ 4294967296) _ (fun y hy => (mem_parts HMX2.out HLL.out y hy).1)
                  clear hkv9 htk e9 hy HGI
                  generalize putsC (cmpO o) ((LL.take j).flatten ++ x.take p) = r9 at *
                  have hky := (HLL.out x HMX2.out y hmem).1
                  have hha := hit_at (f := cmpO o) (key := y.f0) (l := r9)
                  rw [hht] at hha
                  have hle9 := findL_le (cmpO o) y.f0 (kvC r9)
                  have HFIND := Lib.hid (find_calls (c := c9) (d := kc) o (Kd.F_now hF9) hc9 (Kd.F_now hKF) hkc hky hall9 hlen9)
                  have HC9 : ∀ W, Below wr.heap.size wr W → Hid (Calls Tryz.prog 31 #[.int .i64 o, .slice A9 r9.length c9, .slice K y.f0.length kc, .slice V y.f1.length vc] W fun e w' => CpuTold (fun k => k < wr.heap.size) (putC (cmpO o) y.f0 y.f1 r9) W e w') := fun W hW => Lib.hid (cput_calls o (Kd.F_below hF9 hW) rfl hc9 (fun k hk => Nat.lt_of_lt_of_le hk hW.size) (Kd.F_mono (Kd.F_below hKF hW) (fun k hk => Nat.lt_of_lt_of_le hk HBX.out.size)) hkc (Kd.F_mono (Kd.F_below hVF hW) (fun k hk => Nat.lt_of_lt_of_le hk HBX.out.size)) hvc hky hall9 hlen9)
                  have y2 : decide ((p : Int) < (x.length : Int)) = true := decide_eq_true (by omega)
                  have y3 : (p : Int) < (x.length : Int) := by omega
                  have wp1 : wrap64 ((p : Int) + 1) = (p : Int) + 1 := wz (by omega) (by have := HCN.out; omega)
                  have HPL := Lib.hid hp
                  have HKF := Lib.hid (And.intro hKF hkc)
                  have HF9 := Lib.hid hF9
                  clear hmem hKF hVF hkc hvc hc9 hF9 hlen9 hall9 hht hky hp
                  generalize findL (cmpO o) y.f0 (kvC r9) = at9 at *
                  go_upto_region 16 with (go_at_call 35; (with_reducible refine HFIND.out.mono ?_); rintro e w5 ⟨rfl, hb5⟩)
                  have HB5 := Lib.hid hb5
                  have HWR : ∀ d os, Hid (Below w5.heap.size w5 (grow (redrawn w5 d) os)) := fun d os => below_regrown w5 d os
                  have q5 := pw_cell_below hb5 q0
                  have k5 := pw_cell_below hb5 k0
                  have l5 := pw_cell_below hb5 l0
                  clear hb5 q0 k0 l0 HFIND
                  have Q5 := cell_regrown q5
                  have K5 := cell_regrown k5
                  by_cases h9 : at9 < r9.length
                  · obtain ⟨z, hz⟩ : ∃ z, r9.getD at9 (⟨[], []⟩ : S36) = z := ⟨_, rfl⟩
                    obtain ⟨ad9, Z, zc, Z2, zc2, hAA, r5, -, hZF, -, hzc, -⟩ := cp_at (Kd.F_below HF9.out HB5.out) h9 hz
                    subst hAA
                    have R5 := cell_regrown r5
                    rw [decide_eq_true h9, Bool.true_and, hz] at hha
                    have HSAME : ∀ W, Below w5.heap.size w5 W → Hid (Calls Tryz.prog 20 #[.slice Z z.f0.length zc, .slice K y.f0.length kc] W fun e w' => e = .returned (.bool ht) ∧ Below W.heap.size W w') := fun W hW => Lib.hid (by
                      rw [hha]
                      exact same_calls (Kd.F_now (Kd.F_below hZF hW)) hzc (Kd.F_now (Kd.F_below HKF.out.1 (HB5.out.trans (hW.mono HB5.out.size)))) HKF.out.2)
                    have y4 : decide ((at9 : Int) < (r9.length : Int)) = true := decide_eq_true (by omega)
                    have y5 : (at9 : Int) < (r9.length : Int) := by omega
                    clear hha hz h9 hle9 hZF hzc r5
                    cases ht with
                    | true =>
                      refine wp_region_quiet_below (by kernel_rfl) (by kernel_rfl) ?_
                      repeat (go_big_quiet_step (with_reducible refine Calls.regrown_of (HSAME _ (HWR _ _).out).out))
                      refine wpQuiet_nil ?_
                      intro _ hw'
                      obtain ⟨⟨dq, osq⟩, hw''⟩ := hw'
                      subst hw''
                      have hbw := HWR dq osq
                      have q6 := pw_cell_below hbw.out q5
                      have k6 := pw_cell_below hbw.out k5
                      have l6 := pw_cell_below hbw.out l5
                      have HB6 := Lib.hid (HB5.out.trans (hbw.out.mono HB5.out.size))
                      clear HWR Q5 K5 R5 HSAME q5 k5 l5 q6 k6 l6
                      generalize grow (redrawn w5 dq) osq = W6 at *
                      go_wp2
                      go_ret
                      exact ⟨rfl, HBX.out.trans (HB6.out.mono HBX.out.size)⟩
                    | false =>
                      refine wp_region_quiet_below (by kernel_rfl) (by kernel_rfl) ?_
                      repeat (go_big_quiet_step (with_reducible refine Calls.regrown_of (HSAME _ (HWR _ _).out).out))
                      refine wpQuiet_nil ?_
                      intro _ hw'
                      obtain ⟨⟨dq, osq⟩, hw''⟩ := hw'
                      subst hw''
                      have hbw := HWR dq osq
                      have q6 := pw_cell_below hbw.out q5
                      have k6 := pw_cell_below hbw.out k5
                      have l6 := pw_cell_below hbw.out l5
                      have HB6 := Lib.hid (HB5.out.trans (hbw.out.mono HB5.out.size))
                      clear HWR Q5 K5 R5 HSAME q5 k5 l5
                      generalize grow (redrawn w5 dq) osq = W6 at *
                      go_upto_region 18 with (fail)
                      refine still_tail 18 (by kernel_rfl) (by kernel_rfl) ?_
                      intro W3 hW3
                      have q7 := drew_cell hW3 q6
                      have k7 := drew_cell hW3 k6
                      have l7 := drew_cell hW3 l6
                      have HDR := Lib.hid (drew_below hW3)
                      have HC := HC9 _ (HB6.out.trans ((drew_below hW3).mono HB6.out.size))
                      clear hW3 q6 k6 l6 HC9
                      simp only [List.take_succ_cons, List.take_zero, List.drop_succ_cons, List.drop_zero]
                      repeat still_step
                      refine wpStill_nil ?_
                      go_wp2_with (go_at_call 31; (with_reducible refine HC.out.mono ?_); rintro e w8 ⟨v, rfl, hN, hb8⟩)
                      go_roundg (gk - 1)
                      case measure => have := HP.out; have := HPL.out; omega
                      case rel =>
                        refine ⟨p + 1, (by first | rfl | exact congrArg _ wp1), Lib.hid (by have := HP.out; have := HPL.out; omega), Lib.hid ?_, Lib.hid (HNEW.out (by first | rfl | trivial)), Lib.hid (HBI.out.trans ((HB6.out.trans ((HDR.out.trans (hb8.mono HDR.out.size)).mono HB6.out.size)).mono HBI.out.size))⟩
                        rw [HS9.out]
                        obtain ⟨A', c', rfl⟩ := Kd.N_slice hN
                        exact ⟨A', c', rfl, (Kd.N_reads' hN).2.1, Kd.F_mono (Kd.F_bound (Kd.N_F hN)) (fun k hk => hk.2)⟩
                  · rw [decide_eq_false h9, Bool.false_and] at hha
                    subst hha
                    have y4 : decide ((at9 : Int) < (r9.length : Int)) = false := decide_eq_false (by omega)
                    have y5 : ¬ (at9 : Int) < (r9.length : Int) := by omega
                    clear h9 hle9
                    refine wp_region_quiet_below (by kernel_rfl) (by kernel_rfl) ?_
                    repeat (go_big_quiet_step (fail))
                    refine wpQuiet_nil ?_
                    intro _ hw'
                    obtain ⟨⟨dq, osq⟩, hw''⟩ := hw'
                    subst hw''
                    have hbw := HWR dq osq
                    have q6 := pw_cell_below hbw.out q5
                    have k6 := pw_cell_below hbw.out k5
                    have l6 := pw_cell_below hbw.out l5
                    have HB6 := Lib.hid (HB5.out.trans (hbw.out.mono HB5.out.size))
                    clear HWR Q5 K5 q5 k5 l5
                    generalize grow (redrawn w5 dq) osq = W6 at *
                    go_upto_region 18 with (fail)
                    refine still_tail 18 (by kernel_rfl) (by kernel_rfl) ?_
                    intro W3 hW3
                    have q7 := drew_cell hW3 q6
                    have k7 := drew_cell hW3 k6
                    have l7 := drew_cell hW3 l6
                    have HDR := Lib.hid (drew_below hW3)
                    have HC := HC9 _ (HB6.out.trans ((drew_below hW3).mono HB6.out.size))
                    clear hW3 q6 k6 l6 HC9
                    simp only [List.take_succ_cons, List.take_zero, List.drop_succ_cons, List.drop_zero]
                    repeat still_step
                    refine wpStill_nil ?_
                    go_wp2_with (go_at_call 31; (with_reducible refine HC.out.mono ?_); rintro e w8 ⟨v, rfl, hN, hb8⟩)
                    go_roundg (gk - 1)
                    case measure => have := HP.out; have := HPL.out; omega
                    case rel =>
                      refine ⟨p + 1, (by first | rfl | exact congrArg _ wp1), Lib.hid (by have := HP.out; have := HPL.out; omega), Lib.hid ?_, Lib.hid (HNEW.out (by first | rfl | trivial)), Lib.hid (HBI.out.trans ((HB6.out.trans ((HDR.out.trans (hb8.mono HDR.out.size)).mono HB6.out.size)).mono HBI.out.size))⟩
                      rw [HS9.out]
                      obtain ⟨A', c', rfl⟩ := Kd.N_slice hN
                      exact ⟨A', c', rfl, (Kd.N_reads' hN).2.1, Kd.F_mono (Kd.F_bound (Kd.N_F hN)) (fun k hk => hk.2)⟩
                · have y2 : decide ((p : Int) < (x.length : Int)) = false := decide_eq_false (by omega)
                  have y3 : ¬ (p : Int) < (x.length : Int) := by omega
                  have hpn : p = x.length := by have := HP.out.1; omega
                  have q0 := pw_cell_below HBI.out HQ7.out
                  have et : (LL.take j).flatten ++ x.take p = (LL.take (j + 1)).flatten := by rw [hpn, List.take_length, HTK.out.2]
                  rw [et] at HGI HFI
                  have HBZ := Lib.hid (HBL7.out.trans (HBI.out.mono HBL7.out.size))
                  clear hpn hp et
                  go_wp2
                  go_roundg (g0 - 1)
                  case measure => exact round_less HJL.out.1 HJL.out.2
                  case rel =>
                    refine ⟨j + 1, (by first | rfl | exact congrArg _ w1'), Lib.hid (round_next HJL.out.1 HJL.out.2), HGI, Lib.hid ⟨HFI.out, fun l hl => ?_⟩, HBZ⟩
                    rw [HTK.out.1] at hl
                    rcases List.mem_append.1 hl with hl | hl
                    · exact HFS.out.2 l hl
                    · rw [List.mem_singleton] at hl; rw [hl]; exact HRI.out
          · have y0 : decide ((j : Int) < (n : Int)) = false := decide_eq_false (by omega)
            have y1 : ¬ (j : Int) < (n : Int) := by omega
            have ht : LL.take j = LL := by rw [show j = n by have := HJ.out.1; omega, ← HNN.out, List.take_length]
            rw [ht] at HG HFS
            obtain ⟨A7, c7, hv7, hc7, hF7⟩ := HG.out
            subst hv7
            have HXX := Lib.hid (show ∀ l ∈ LL, ∀ y ∈ l, y.f0.length ≤ 4294967296 ∧ y.f1.length ≤ 4294967296 from fun l hl y hy => by have := (HLX.out.2 l hl).2 y hy; omega)
            have hkv := putsC_kv (ord_cmpO o) LL.flatten
            have hmg : Mg (cmpO o) LL (kvC (putsC (cmpO o) LL.flatten)) := by
              rw [hkv]
              exact mg_of (ord_cmpO o) HFS.out.1 (fun l hl => rises_up (ord_cmpO o) _ (HFS.out.2 l hl))
            have hall7 : ∀ y ∈ putsC (cmpO o) LL.flatten, y.f0.length ≤ 4294967296 := putsC_all (p := fun y => y.f0.length ≤ 4294967296) _ (fun y hy => by
              obtain ⟨l, hl, hyl⟩ := List.mem_flatten.1 hy
              exact (HXX.out l hl y hyl).1)
            have hlen7 : (putsC (cmpO o) LL.flatten).length ≤ 4294967296 := by
              have h1 := putsC_len (cmpO o) LL.flatten
              have := HFC.out.2.1
              omega
            have HLN := Lib.hid (show ∀ l ∈ LL, l.length ≤ 1048576 ∧ ∀ x ∈ l, x.f0.length ≤ 4294967296 ∧ x.f1.length ≤ 4294967296 from fun l hl => ⟨by have := len_flat l hl; have := HFC.out.2.1; omega, HXX.out l hl⟩)
            have HMW := Lib.hid (MergedWalk_calls (c := c) (cm := cm) (cmpr_ord HO.out) hmg HNN.out (Kd.F_below HA.out.1 HBW.out) HA.out.2.1 (fun l hl x hx => (HA.out.2.2 l hl x hx).1) (fun l hl => HFS.out.2 l hl) (by have := HFC.out.1; omega) HLN.out (Kd.F_below HM.out.1 HBW.out) HM.out.2.2 (fun k hk q => by have := HBW.out.size; omega) (by have := HMX.out.1; omega))
            have H7 := Lib.hid (And.intro hF7 (And.intro hc7 (And.intro hall7 hlen7)))
            clear ht hkv hmg hall7 hlen7 hF7 hc7 HG hj
            generalize putsC (cmpO o) LL.flatten = r7 at *
            go_wp2_with (first
              | (go_at_call 36; (with_reducible refine HMW.out.mono ?_); rintro e w5 ⟨v, rfl, hN, hb5⟩; obtain ⟨Ag, cg, rfl⟩ := Kd.N_slice hN; rw [atsL_len] at hN; rw [atsL_len]; have HG5 := Lib.hid (Kd.N_F hN); have HR5 := Lib.hid hb5; have HB5 := Lib.hid (HBW.out.trans (hb5.mono HBW.out.size)); clear hb5 hN)
              | (go_at_call 27; (with_reducible refine (walked_calls (l := r7) (ms := ms) o (Kd.F_below H7.out.1 HR5.out) rfl H7.out.2.1 H7.out.2.2.1 H7.out.2.2.2 (Kd.F_below HM.out.1 HB5.out) rfl (by have := HMX.out.1; omega) (fun m hm => by have := HMX.out.2 m hm; omega) HG5.out).mono ?_); rintro e w9 ⟨rfl, hb9⟩; have HB9 := Lib.hid (HB5.out.trans (hb9.mono HB5.out.size)))
              | (go_at_call 28; (with_reducible refine walkAwake_calls.mono ?_); rintro e w10 ⟨rfl, hb10⟩; have HB10 := Lib.hid (HB9.out.trans (hb10.mono HB9.out.size))))
            go_ret
            exact ⟨rfl, HB10.out⟩

end Go.Proofs.YtdkkkikcigjlhaaGreatDoor.Md

namespace Go.Proofs.YtdkkkikcigjlhaaGreatDoor.Md
open Go.RowKit Go.Proofs.YtdkkkikcigjlhaaGreatDoor.Open Go.Proofs.YtdkkkikcigjlhaaGreatDoorW.PrintWords Go.Proofs.YtdkkkikcigjlhaaGreatDoor.Cmp Go.Proofs.YtdkkkikcigjlhaaGreatDoor.PFnMemMap

theorem mergedWalk_row (o : Int) (A : Option Addr) (n c : Nat) (LL : List (List S44)) (Am : Option Addr) (nm cm : Nat) (ms : List S104) (w : World) (w0 : (Lit.int .i64 o).wf = true)
    (h : LLK.K w LL [.slice A n c]) (ho : ∀ l ∈ LL, ∀ x ∈ l, (∀ z ∈ x.f0, (Lit.int .u8 z).wf = true) ∧ (∀ z ∈ x.f1, (Lit.int .u8 z).wf = true)) (g : MvsK.K w ms [.slice Am nm cm]) (go : ∀ x ∈ ms, (Lit.int .i64 x.f0).wf = true ∧ (∀ z ∈ x.f1, (Lit.int .u8 z).wf = true)) :
    Calls Tryz.prog 6 #[.int .i64 o, .slice A n c, .slice Am nm cm] w fun x w' => x = .returned (.bool true) ∧ Below w.heap.size w w' := by
  obtain ⟨A', c', he, hc, hC⟩ := h
  injection he with he _
  injection he with e1 e2 e3
  subst e1 e2 e3
  obtain ⟨B', d', he, hd, hD⟩ := g
  injection he with he _
  injection he with e1 e2 e3
  subst e1 e2 e3
  exact mergedWalk_law o hC hc (fun l hl x hx => ⟨r_byt (ho l hl x hx).1, r_byt (ho l hl x hx).2⟩) hD hd (fun m hm => r_byt (go m hm).2)

end Go.Proofs.YtdkkkikcigjlhaaGreatDoor.Md
