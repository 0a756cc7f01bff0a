/- The laws' own bounds: fewPairs, walked. The reference's cursor: a put. -/
import Derived.Test.YtdkkkikcigjlhaaGreatDoorMj14
set_option linter.unusedVariables false
set_option linter.unusedSimpArgs false
namespace Go.Proofs.YtdkkkikcigjlhaaGreatDoor.Md
open Go.RowKit Go.Proofs.YtdkkkikcigjlhaaGreatDoor.Con Go.Proofs.YtdkkkikcigjlhaaGreatDoor.Run Go.Proofs.YtdkkkikcigjlhaaGreatDoorW.PrintWords Go.Proofs.YtdkkkikcigjlhaaGreatDoorW.PrintMore Go.Proofs.YtdkkkikcigjlhaaGreatDoor.Cmp Go.Sort Go.RwLone Go.Proofs.YtdkkkikcigjlhaaGreatDoor.PFnMemMap

theorem few_step {n i : Nat} (h : i < n) (hn : n ≤ 2147483647) : decide ((i : Int) < (n : Int)) = true ∧ wrap64 ((i : Int) + 1) = (i : Int) + 1 ∧ (i : Int) < (n : Int) := ⟨decide_eq_true (by omega), by unfold wrap64; omega, by omega⟩

theorem sp_below_fr {B : Nat} {a b c : World} {S : Nat → Prop} (h : Below B a b) (hB : B ≤ b.heap.size) (g : Fr b c S) (hS : ∀ k, S k → B ≤ k) : Below B a c :=
  ⟨g.os.trans h.os, g.tape.trans h.tape, g.output.trans h.output, Nat.le_trans h.size g.size, fun k hk => (g.block k (Nat.lt_of_lt_of_le hk hB) (fun q => by have := hS k q; omega)).trans (h.block k hk)⟩

set_option maxHeartbeats 6400000 in
set_option maxRecDepth 100000 in
theorem fewPairs_calls {w : World} {ok okm : Nat → Prop} {A Am : Option Addr} {n c mn cm : Nat} {LL : List (List S44)} {ms : List S104} (hn : LL.length = n) (hL : Kd.F kLL w ok A n LL) (hok : ∀ k, ok k → k < w.heap.size) (hmn : ms.length = mn) (hM : Kd.F k104 w okm Am mn ms) (hokm : ∀ k, okm k → k < w.heap.size)
    (b1 : n ≤ 2147483647) (b2 : ∀ l ∈ LL, l.length ≤ 2147483647) (b3 : mn ≤ 2147483647) :
    Calls Tryz.prog 23 #[.slice A n c, .slice Am mn cm] w fun e w' => e = .returned (.bool (few LL ms)) ∧ Below w.heap.size w w' := by
  have HL := Lib.hid (And.intro hL (And.intro hn b1))
  have HM := Lib.hid (And.intro hM (And.intro hmn b3))
  have HO := Lib.hid (And.intro hok hokm)
  have H2 := Lib.hid b2
  have hcl : cntL LL ≤ 2147483647 * 2147483647 := Nat.le_trans (cnt_le b2) (Nat.mul_le_mul_right _ (by omega))
  have HCL := Lib.hid hcl
  have hb0 := below_alloc (Below.refl w.heap.size w) (.cells #[.int .i64 0, .int .i64 (n : Int)] 86)
  have hk0 := blk_new w (.cells #[.int .i64 0, .int .i64 (n : Int)] 86)
  have HBD : Hid (BndAt (w.alloc (.cells #[.int .i64 0, .int .i64 (n : Int)] 86)) w.heap.size 0 n) := Lib.hid (by
    unfold BndAt
    rw [show wrap64 ((0 : Nat) : Int) = 0 by unfold wrap64; omega]
    exact hk0)
  have HBB := Lib.hid hb0
  clear hL hn hM hmn hok hokm b1 b2 b3 hcl hb0 hk0
  go_enter Tryz.func23, Tryz.ntmps23
  go_wp2
  generalize w.alloc (.cells #[.int .i64 0, .int .i64 (n : Int)] 86) = w1 at *
  go_loopg [6] n (fun k v6 w' => ∃ i : Nat, v6 = .int .i64 (i : Int) ∧ Hid (i ≤ n ∧ n ≤ i + k) ∧ Hid (BndAt w' w.heap.size (sumL (LL.take i)) (n + cntL (LL.take i))) ∧ Hid (Below w.heap.size w w'))
  case atStart => exact ⟨0, rfl, Lib.hid ⟨by omega, by omega⟩, HBD, HBB⟩
  case round =>
    obtain ⟨i, rfl, HI, HK, HB⟩ := hrel
    by_cases hi : i < n
    · obtain ⟨z0, w0, z1⟩ := few_step hi HL.out.2.2
      have HII := Lib.hid hi
      obtain ⟨l, hl⟩ : ∃ l, LL.getD i [] = l := ⟨_, rfl⟩
      have hmem : l ∈ LL := by
        rw [← hl, List.getD_eq_getElem?_getD, List.getElem?_eq_getElem (by rw [HL.out.2.1]; exact hi)]
        exact List.getElem_mem _
      have hlm := H2.out l hmem
      have htk := sp_take (l := LL) (i := i) (by rw [HL.out.2.1]; exact hi) []
      rw [hl] at htk
      have hcnt : cntL (LL.take i) + l.length ≤ cntL LL := by
        rw [← cntL_snoc, ← htk]
        have e := congrArg cntL (List.take_append_drop (i + 1) LL)
        unfold cntL at e ⊢
        rw [List.map_append, List.sum_append] at e
        omega
      have HC := Lib.hid (And.intro hlm (And.intro htk (Nat.le_trans hcnt HCL.out)))
      have HLI := Lib.hid hl
      clear hmem hlm htk hcnt hl
      obtain ⟨gk0, rfl⟩ : ∃ g, g = gk := ⟨gk, rfl⟩
      go_wp2
      generalize hml : l.length = m at *
      have HML := Lib.hid hml
      clear hml
      go_loopg [7] m (fun k v7 w' => ∃ j : Nat, v7 = .int .i64 (j : Int) ∧ Hid (j ≤ m ∧ m ≤ j + k) ∧ Hid (BndAt w' w.heap.size (sumL (LL.take i) + sumK (l.take j)) (n + cntL (LL.take i) + j)) ∧ Hid (Below w.heap.size w w'))
      case atStart => exact ⟨0, rfl, Lib.hid ⟨by omega, by omega⟩, HK, HB⟩
      case round =>
        obtain ⟨j, rfl, HJ, HKJ, HBJ⟩ := hrel
        obtain ⟨ad, A1, c1, hA, r0, hc1, hF1⟩ := LL_at (Kd.F_below HL.out.1 HBJ.out) hi HLI.out
        subst hA
        rw [HML.out] at r0
        by_cases hj : j < m
        · obtain ⟨y0, x0, y1⟩ := few_step hj HC.out.1
          obtain ⟨x, hx⟩ : ∃ x, l.getD j (⟨[], []⟩ : S44) = x := ⟨_, rfl⟩
          obtain ⟨ad2, K, kc, V, vc, hA2, s0, s1, -, -, -, -⟩ := kv_at (n := m) (by rw [← HML.out]; exact hF1) hj hx
          subst hA2
          have htk2 := sp_take (l := l) (i := j) (by rw [HML.out]; exact hj) (⟨[], []⟩ : S44)
          rw [hx] at htk2
          have hsn : sumK (l.take (j + 1)) = sumK (l.take j) + (x.f0.length + x.f1.length) := by rw [htk2, sumK_snoc]
          have HSN := Lib.hid hsn
          have HJJ := Lib.hid hj
          clear hx htk2 hsn hc1 hF1
          generalize x.f0.length = kn at *
          generalize x.f1.length = vn at *
          go_upto_region 9 with (fail)
          refine still_tail 16 (by kernel_rfl) (by kernel_rfl) ?_
          intro W3 hW3
          have r0 := drew_cell hW3 r0
          have s0 := drew_cell hW3 s0
          have s1 := drew_cell hW3 s1
          have k3 : Hid (BndAt W3 w.heap.size (sumL (LL.take i) + sumK (l.take j)) (n + cntL (LL.take i) + j)) := by rw [hW3]; exact Lib.hid HKJ.out
          have g3 : Hid (Below w.heap.size w W3) := by rw [hW3]; exact Lib.hid HBJ.out.drew
          clear hW3
          simp only [List.take_succ_cons, List.take_zero, List.drop_succ_cons, List.drop_zero]
          repeat still_step
          refine wpStill_nil ?_
          have hA := Lib.hid (k3.out.two (K := K) (V := V) (kn := kn) (vn := vn) (kc := kc) (vc := vc) (by have := HC.out.2.2; have := HL.out.2.2; have := HJJ.out; have := HC.out.1; omega))
          go_wp2_with (go_at_call 44; (with_reducible refine hA.out.mono ?_); rintro e w4 ⟨rfl, hk4, hf4⟩)
          go_roundg (gk - 1)
          case measure => have := HJ.out; have := HJJ.out; omega
          case rel =>
            refine ⟨j + 1, (by first | rfl | exact congrArg _ x0), Lib.hid (by have := HJ.out; have := HJJ.out; omega), Lib.hid ?_, Lib.hid (sp_below_fr g3.out g3.out.size hf4.out (fun k hk => by rw [hk]; exact Nat.le_refl _))⟩
            rw [HSN.out, ← Nat.add_assoc, ← Nat.add_assoc]
            have := hk4.out
            rw [← Nat.add_assoc] at this
            exact this
        · have y0 : decide ((j : Int) < (m : Int)) = false := decide_eq_false (by omega)
          have hjm : j = m := by have := HJ.out; omega
          have HJM := Lib.hid hjm
          clear hjm
          have e1 : l.take j = l := by rw [HJM.out, ← HML.out, List.take_length]
          have hk : BndAt wr w.heap.size (sumL (LL.take (i + 1))) (n + cntL (LL.take (i + 1))) := by
            have hk := HKJ.out
            rw [e1] at hk
            rw [HC.out.2.1, sumL_snoc, cntL_snoc, HML.out, ← HJM.out, ← Nat.add_assoc]
            exact hk
          have HK2 := Lib.hid hk
          clear hk e1
          go_wp2
          go_roundg (gk0 - 1)
          case measure => have := HI.out; have := HII.out; omega
          case rel => exact ⟨i + 1, (by first | rfl | exact congrArg _ w0), Lib.hid (by have := HI.out; have := HII.out; omega), HK2, HBJ⟩
    · have z0 : decide ((i : Int) < (n : Int)) = false := decide_eq_false (by omega)
      have hin : i = n := by have := HI.out; omega
      have e : LL.take i = LL := by rw [hin, ← HL.out.2.1, List.take_length]
      rw [e] at HK
      clear hin e
      go_wp2
      go_loopg [8] mn (fun k v8 w' => ∃ j : Nat, v8 = .int .i64 (j : Int) ∧ Hid (j ≤ mn ∧ mn ≤ j + k) ∧ Hid (BndAt w' w.heap.size (sumL LL + sumM (ms.take j)) (n + cntL LL + j)) ∧ Hid (Below w.heap.size w w'))
      case atStart => exact ⟨0, rfl, Lib.hid ⟨by omega, by omega⟩, HK, HB⟩
      case round =>
        obtain ⟨j, rfl, HJ, HKJ, HBJ⟩ := hrel
        by_cases hj : j < mn
        · obtain ⟨y0, x0, y1⟩ := few_step hj HM.out.2.2
          obtain ⟨x, hx⟩ : ∃ x, ms.getD j (⟨0, []⟩ : S104) = x := ⟨_, rfl⟩
          obtain ⟨ad2, K, kc, hA2, s0, s1, -, -⟩ := mv_at (Kd.F_below HM.out.1 HBJ.out) hj hx
          subst hA2
          have htk2 := sp_take (l := ms) (i := j) (by rw [HM.out.2.1]; exact hj) (⟨0, []⟩ : S104)
          rw [hx] at htk2
          have hsn : sumM (ms.take (j + 1)) = sumM (ms.take j) + x.f1.length := by rw [htk2, sumM_snoc]
          have HSN := Lib.hid hsn
          have HJJ := Lib.hid hj
          clear hx htk2 hsn s0
          generalize x.f1.length = kn at *
          have hA := Lib.hid (HKJ.out.one (K := K) (kn := kn) (kc := kc) (by have := HCL.out; have := HL.out.2.2; have := HJJ.out; have := HM.out.2.2; omega))
          go_wp2_with (go_at_call 44; (with_reducible refine hA.out.mono ?_); rintro e w4 ⟨rfl, hk4, hf4⟩)
          go_roundg (gk - 1)
          case measure => have := HJ.out; have := HJJ.out; omega
          case rel =>
            refine ⟨j + 1, (by first | rfl | exact congrArg _ x0), Lib.hid (by have := HJ.out; have := HJJ.out; omega), Lib.hid ?_, Lib.hid (sp_below_fr HBJ.out HBJ.out.size hf4.out (fun k hk => by rw [hk]; exact Nat.le_refl _))⟩
            rw [HSN.out, ← Nat.add_assoc, ← Nat.add_assoc]
            exact hk4.out
        · have y0 : decide ((j : Int) < (mn : Int)) = false := decide_eq_false (by omega)
          have hjm : j = mn := by have := HJ.out; omega
          have hk := HKJ.out
          rw [hjm, ← HM.out.2.1, List.take_length] at hk
          have HKF := Lib.hid hk
          clear hjm hk
          have HWI : Hid (Calls Tryz.prog 45 #[.pointer (some ⟨w.heap.size, 0, none⟩)] wr fun e w' => e = .returned (.bool (few LL ms)) ∧ wr = w') := Lib.hid ((within_calls HKF.out).mono (by
            rintro e w' ⟨rfl, rfl⟩
            refine ⟨?_, rfl⟩
            unfold few
            rw [HL.out.2.1]))
          go_wp2_with (go_at_call 45; (with_reducible refine HWI.out.mono ?_); rintro e w4 ⟨rfl, rfl⟩)
          go_ret
          exact ⟨rfl, HBJ.out⟩

theorem info_CP : (Tryz.prog.info? 36).map (fun i => (i.zero, i.size, i.bytes)) = some (some (.agg #[.slice none 0 0, .slice none 0 0]), 2, 48) := by kernel_rfl

theorem N_empty {α : Type} (d : Kd α) {W : World} {base g : Nat} {e : TypeId} {ok : Nat → Prop} (h : W.heap[g]? = some (.cells #[] e (0, 0))) (hb : base ≤ g) (hok : ok g) : Kd.N d e W base ok (.slice (some ⟨g, 0, none⟩) 0 0) [] := by
  refine ⟨fun k hk => ?_, [], rfl, ⟨fun k hk => hk.symm, [], ⟨by simp, .inr ⟨g, 0, #[], rfl, hb, h, Nat.le_refl _, by omega, by simp, by simp⟩⟩, ⟨by simp, fun j p hj => by simp at hj⟩⟩, fun j x c hj => by simp at hj⟩
  have e : (Value.slice (some (⟨g, 0, none⟩ : Addr)) 0 0).ownBlock = some g := rfl
  rw [e] at hk
  injection hk with hk
  exact hk ▸ hok

theorem cutF {w : World} {ok : Nat → Prop} {A : Option Addr} {n c : Nat} {l : List S36} (h : Kd.F k36 w ok A n l) (hn : l.length = n) (hc : n ≤ c) (j : Int) (p : Nat) (hj : j.toNat = p) (h0 : 0 ≤ j) (hp : p ≤ n) :
    ∃ A' c', (∀ W : World, (Instr.slice 31 (.slice A n c) (some (.int .i64 j)) none none).run Tryz.prog W = .ok (.slice A' (n - p) c') W) ∧ Kd.F k36 w ok A' (n - p) (l.drop p) := by
  obtain ⟨i0, hi, hzz⟩ := Option.map_eq_some_iff.1 info_CP
  simp only [Prod.mk.injEq] at hzz
  have hs := cut_from (P := Tryz.prog) 31 36 .i64 Tryz.underlying31 hi 2 hzz.2.1 A n c j h0 (by omega)
  rw [hj] at hs
  subst hn
  have hf := Kd.F_cut h hp hc
  rw [List.length_drop] at hf
  exact ⟨_, _, hs, hf⟩

theorem cutT {w : World} {ok : Nat → Prop} {A : Option Addr} {n c : Nat} {l : List S36} (h : Kd.F k36 w ok A n l) (hn : l.length = n) (hc : n ≤ c) (p : Nat) (hp : p ≤ n) :
    (∀ W : World, (Instr.slice 31 (.slice A n c) none (some (.int .i64 (p : Int))) none).run Tryz.prog W = .ok (.slice A p c) W) ∧ Kd.F k36 w ok A p (l.take p) := by
  obtain ⟨i0, hi, hzz⟩ := Option.map_eq_some_iff.1 info_CP
  have hs := cut_to (P := Tryz.prog) 31 36 .i64 Tryz.underlying31 hi A n c (p : Int) (Int.natCast_nonneg _) (by omega) hc
  rw [Int.toNat_natCast] at hs
  refine ⟨hs, ?_⟩
  subst hn
  have := Kd.F_take h hp
  rw [List.length_take, Nat.min_eq_left hp] at this
  exact this

theorem hit_at {f : List Int → List Int → Int} {key : List Int} {l : List S36} : hitL f key (kvC l) = (decide (findL f key (kvC l) < l.length) && decide ((l.getD (findL f key (kvC l)) (⟨[], []⟩ : S36)).f0 = key)) := by
  unfold hitL
  rw [kvC_get]
  by_cases h : findL f key (kvC l) < l.length
  · rw [List.getElem?_eq_getElem h, decide_eq_true h]
    simp [List.getD_eq_getElem?_getD, List.getElem?_eq_getElem h]
  · rw [List.getElem?_eq_none (by omega), decide_eq_false h]
    rfl

theorem cp_at {w : World} {ok : Nat → Prop} {A : Option Addr} {n : Nat} {l : List S36} (h : Kd.F k36 w ok A n l) {j : Nat} (hj : j < n) {x : S36} (hx : l.getD j (⟨[], []⟩ : S36) = x) :
    ∃ ad A1 c1 A2 c2, A = some ad ∧ w.cell? (ad.add (j * 2)) = some (.slice A1 x.f0.length c1) ∧ w.cell? ⟨(ad.add (j * 2)).block, (ad.add (j * 2)).off + 1, none⟩ = some (.slice A2 x.f1.length c2) ∧ Kd.F (Kd.int .u8) w ok A1 x.f0.length x.f0 ∧ Kd.F (Kd.int .u8) w ok A2 x.f1.length x.f1 ∧ x.f0.length ≤ c1 ∧ x.f1.length ≤ c2 := by
  obtain ⟨ad, cs', rfl, hcl, hK, hcell, hokb⟩ := Kd.F_get h (⟨[], []⟩ : S36) (j : Int) (Int.natCast_nonneg _) (by omega)
  obtain ⟨A1, c1, A2, c2, rfl, hl1, hF1, hl2, hF2⟩ := k36_openF hK
  have r0 := hcell 0 _ rfl
  have r1 := hcell 1 _ rfl
  rw [Int.toNat_natCast, hx] at r0 r1 hF1 hF2 hl1 hl2
  have e3 : j * k36.sz + 1 = j * 2 + 1 := rfl
  rw [e3, add_field ad (j * 2) 1 (by omega)] at r1
  exact ⟨ad, A1, c1, A2, c2, rfl, r0, r1, hF1, hF2, hl1, hl2⟩

def CpuTold (ok : Nat → Prop) (r : List S36) (w : World) (e : Ending) (w' : World) : Prop := ∃ v, e = .returned v ∧ Kd.N k36 36 w' w.heap.size (fun k => ok k ∨ w.heap.size ≤ k) v r ∧ Below w.heap.size w w'

theorem rows_ok {w W : World} {ok : Nat → Prop} {v : Value} {xs : List S36} (h : Kd.N k36 36 W w.heap.size (fun k => ok k ∨ w.heap.size ≤ k) v xs) : ∀ k, (ok k ∧ k < w.heap.size) → (ok k ∨ w.heap.size ≤ k) ∧ some k ≠ v.ownBlock :=
  fun k hk => ⟨.inl hk.1, fun e => by have := Kd.N_base h k e.symm; omega⟩

set_option maxHeartbeats 6400000 in
set_option maxRecDepth 100000 in
theorem cput_calls {w : World} {ok : Nat → Prop} {A B D : Option Addr} {n c cb cd : Nat} {l : List S36} {key val : List Int} (o : Int) (hA : Kd.F k36 w ok A n l) (hn : l.length = n) (hc : n ≤ c) (hok : ∀ k, ok k → k < w.heap.size) (hB : Kd.F (Kd.int .u8) w ok B key.length key) (hcb : key.length ≤ cb) (hD : Kd.F (Kd.int .u8) w ok D val.length val) (hcd : val.length ≤ cd)
    (hk : key.length ≤ 4294967296) (hx : ∀ x ∈ l, x.f0.length ≤ 4294967296) (hl : n ≤ 4294967296) :
    Calls Tryz.prog 31 #[.int .i64 o, .slice A n c, .slice B key.length cb, .slice D val.length cd] w fun e w' => CpuTold ok (putC (cmpO o) key val l) w e w' := by
  have HP := Lib.hid (And.intro hA (And.intro hn (And.intro hc (And.intro hok (And.intro hB (And.intro hcb (And.intro hD (And.intro hcd hl))))))))
  have HFI := Lib.hid (find_calls (c := c) (d := cb) o (Kd.F_now (show Kd.F k36 w ok A l.length l by rw [hn]; exact hA)) (by rw [hn]; exact hc) (Kd.F_now hB) hcb hk hx (by rw [hn]; exact hl))
  rw [hn] at HFI
  have hple := findL_le (cmpO o) key (kvC l)
  rw [kvC_len, hn] at hple
  have HHIT := Lib.hid (hit_at (f := cmpO o) (key := key) (l := l))
  have HRES : Hid (putC (cmpO o) key val l = (l.take (findL (cmpO o) key (kvC l)) ++ [⟨key, val⟩]) ++ (if hitL (cmpO o) key (kvC l) = true then l.drop (findL (cmpO o) key (kvC l) + 1) else l.drop (findL (cmpO o) key (kvC l)))) := Lib.hid rfl
  generalize findL (cmpO o) key (kvC l) = p at *
  generalize hitL (cmpO o) key (kvC l) = ht at *
  have HPL := Lib.hid hple
  have HL := Lib.hid hl
  have HLT := Lib.hid (show (l.take p).length = p by rw [List.length_take, hn, Nat.min_eq_left hple])
  obtain ⟨A1, c1, s1, hF1⟩ := cutF hA hn hc (p : Int) p (Int.toNat_natCast _) (Int.natCast_nonneg _) hple
  obtain ⟨s2, hF2⟩ := cutT hA hn hc p hple
  have HF1 := Lib.hid hF1
  have HF2 := Lib.hid hF2
  by_cases hlt : p < n
  · obtain ⟨x, hxx⟩ : ∃ x, l.getD p (⟨[], []⟩ : S36) = x := ⟨_, rfl⟩
    obtain ⟨ad, K, kc, V, vc, hAA, r0, r1, hKF, -, hkc, -⟩ := cp_at hA hlt hxx
    subst hAA
    obtain ⟨A3, c3, s3, hF3⟩ := cutF hA hn hc ((p : Int) + 1) (p + 1) (by omega) (by omega) hlt
    have HF3 := Lib.hid hF3
    have HK := Lib.hid (And.intro hKF hkc)
    have HR0 := Lib.hid r0
    have hht := HHIT.out
    rw [hn, decide_eq_true hlt, Bool.true_and, hxx] at hht
    have HHT := Lib.hid hht
    have z0 : decide ((p : Int) < (n : Int)) = true := decide_eq_true (by omega)
    have z1 : (p : Int) < (n : Int) := by omega
    have w0 : wrap64 ((p : Int) + 1) = (p : Int) + 1 := by unfold wrap64; omega
    clear hht
    clear hA hn hc hok hB hcb hD hcd hk hx hl hF1 hF2 hple hKF hkc hF3 r0 r1
    have hsame : ∀ w1, Below w.heap.size w w1 → Hid (Calls Tryz.prog 20 #[.slice K x.f0.length kc, .slice B key.length cb] w1 fun e w' => e = .returned (.bool ht) ∧ Below w1.heap.size w1 w') := fun w1 hb => Lib.hid (by
      rw [HHT.out]
      exact same_calls (Kd.F_now (Kd.F_below HK.out.1 hb)) HK.out.2 (Kd.F_now (Kd.F_below HP.out.2.2.2.2.1 hb)) HP.out.2.2.2.2.2.1)
    cases ht with
    | true =>
      go_enter Tryz.func31, Tryz.ntmps31
      go_wp2_with (first
      | (go_at_call 35; (with_reducible refine HFI.out.mono ?_); rintro e w1 ⟨rfl, hb1⟩; have HB1 := Lib.hid hb1; have r0 := pw_cell_below hb1 HR0.out)
      | (go_at_call 20; (with_reducible refine (hsame _ hb1).out.mono ?_); rintro e w2 ⟨rfl, hb2⟩; have hb12 := hb1.trans (hb2.mono hb1.size))
      | (at_builtin; go_loud (refine Kd.N_append_rows k36 w.heap.size rfl (.tmp 36) (.tmp 39) 31 36 (.agg #[.slice none 0 0, .slice none 0 0]) 48 rfl Tryz.underlying31 info_CP rfl (by decide) (by decide) _ _ _ _ _ _ (fun k => ok k ∨ w.heap.size ≤ k) (fun k => ok k ∧ k < w.heap.size) rfl rfl (N_empty k36 (blk_new _ _) hb12.size (.inr hb12.size)) (Kd.F_below (Kd.F_bound HF2.out) (below_alloc hb12 _)) (rows_ok (N_empty k36 (blk_new _ _) hb12.size (.inr hb12.size))) (fun k hk => .inr (by have := hb12.size; rw [World.size_alloc] at hk; omega)) (below_alloc hb12 _) (Nat.le_trans hb12.size (by rw [World.size_alloc]; omega)) (by have := HL.out; have := HPL.out; simp only [List.length_nil]; omega) ?_); intro v5 w5 hn5 hb5 hg5 hat5)
      | (at_builtin; go_loud (refine Kd.N_append k36 w.heap.size rfl (.tmp 41) (.tmp 45) 31 36 (.agg #[.slice none 0 0, .slice none 0 0]) 48 rfl Tryz.underlying31 info_CP rfl (by decide) (by decide) _ _ _ _ (fun k => ok k ∨ w.heap.size ≤ k) (fun k => ok k ∧ k < w.heap.size) rfl rfl (k36_mkF _ _ ⟨key, val⟩ HP.out.2.2.2.2.2.1 (Kd.F_below (Kd.F_bound HP.out.2.2.2.2.1) hb5) HP.out.2.2.2.2.2.2.2.1 (Kd.F_below (Kd.F_bound HP.out.2.2.2.2.2.2.1) hb5)) (rows_ok hn5) (fun k hk => .inr (by have := hb5.size; omega)) hn5 hb5 hb5.size (by have := HL.out; have := HPL.out; have := HLT.out; simp only [List.length_append, List.length_nil, List.nil_append] at *; omega) ?_); intro v6 w6 hn6 hb6 hg6 hat6)
      | (at_builtin; go_loud (refine Kd.N_append_rows k36 w.heap.size rfl (.tmp 47) (.tmp 48) 31 36 (.agg #[.slice none 0 0, .slice none 0 0]) 48 rfl Tryz.underlying31 info_CP rfl (by decide) (by decide) _ _ _ _ _ _ (fun k => ok k ∨ w.heap.size ≤ k) (fun k => ok k ∧ k < w.heap.size) rfl rfl hn6 (Kd.F_below (Kd.F_bound HF3.out) hb6) (rows_ok hn6) (fun k hk => .inr (by have := hb6.size; omega)) hb6 hb6.size (by have := HL.out; have := HPL.out; have := HLT.out; simp only [List.length_append, List.length_nil, List.nil_append, List.length_singleton] at *; omega) ?_); intro v7 w7 hn7 hb7 hg7 hat7))
      go_ret
      refine ⟨v7, rfl, ?_, hb7⟩
      rw [HRES.out]
      exact hn7
    | false =>
      go_enter Tryz.func31, Tryz.ntmps31
      go_wp2_with (first
      | (go_at_call 35; (with_reducible refine HFI.out.mono ?_); rintro e w1 ⟨rfl, hb1⟩; have HB1 := Lib.hid hb1; have r0 := pw_cell_below hb1 HR0.out)
      | (go_at_call 20; (with_reducible refine (hsame _ hb1).out.mono ?_); rintro e w2 ⟨rfl, hb2⟩; have hb12 := hb1.trans (hb2.mono hb1.size))
      | (at_builtin; go_loud (refine Kd.N_append_rows k36 w.heap.size rfl (.tmp 36) (.tmp 39) 31 36 (.agg #[.slice none 0 0, .slice none 0 0]) 48 rfl Tryz.underlying31 info_CP rfl (by decide) (by decide) _ _ _ _ _ _ (fun k => ok k ∨ w.heap.size ≤ k) (fun k => ok k ∧ k < w.heap.size) rfl rfl (N_empty k36 (blk_new _ _) hb12.size (.inr hb12.size)) (Kd.F_below (Kd.F_bound HF2.out) (below_alloc hb12 _)) (rows_ok (N_empty k36 (blk_new _ _) hb12.size (.inr hb12.size))) (fun k hk => .inr (by have := hb12.size; rw [World.size_alloc] at hk; omega)) (below_alloc hb12 _) (Nat.le_trans hb12.size (by rw [World.size_alloc]; omega)) (by have := HL.out; have := HPL.out; simp only [List.length_nil]; omega) ?_); intro v5 w5 hn5 hb5 hg5 hat5)
      | (at_builtin; go_loud (refine Kd.N_append k36 w.heap.size rfl (.tmp 41) (.tmp 45) 31 36 (.agg #[.slice none 0 0, .slice none 0 0]) 48 rfl Tryz.underlying31 info_CP rfl (by decide) (by decide) _ _ _ _ (fun k => ok k ∨ w.heap.size ≤ k) (fun k => ok k ∧ k < w.heap.size) rfl rfl (k36_mkF _ _ ⟨key, val⟩ HP.out.2.2.2.2.2.1 (Kd.F_below (Kd.F_bound HP.out.2.2.2.2.1) hb5) HP.out.2.2.2.2.2.2.2.1 (Kd.F_below (Kd.F_bound HP.out.2.2.2.2.2.2.1) hb5)) (rows_ok hn5) (fun k hk => .inr (by have := hb5.size; omega)) hn5 hb5 hb5.size (by have := HL.out; have := HPL.out; have := HLT.out; simp only [List.length_append, List.length_nil, List.nil_append] at *; omega) ?_); intro v6 w6 hn6 hb6 hg6 hat6)
      | (at_builtin; go_loud (refine Kd.N_append_rows k36 w.heap.size rfl (.tmp 47) (.tmp 48) 31 36 (.agg #[.slice none 0 0, .slice none 0 0]) 48 rfl Tryz.underlying31 info_CP rfl (by decide) (by decide) _ _ _ _ _ _ (fun k => ok k ∨ w.heap.size ≤ k) (fun k => ok k ∧ k < w.heap.size) rfl rfl hn6 (Kd.F_below (Kd.F_bound HF1.out) hb6) (rows_ok hn6) (fun k hk => .inr (by have := hb6.size; omega)) hb6 hb6.size (by have := HL.out; have := HPL.out; have := HLT.out; simp only [List.length_append, List.length_nil, List.nil_append, List.length_singleton] at *; omega) ?_); intro v7 w7 hn7 hb7 hg7 hat7))
      go_ret
      refine ⟨v7, rfl, ?_, hb7⟩
      rw [HRES.out]
      exact hn7
  · have hht := HHIT.out
    rw [hn, decide_eq_false hlt, Bool.false_and] at hht
    subst hht
    have z0 : decide ((p : Int) < (n : Int)) = false := decide_eq_false (by omega)
    clear hA hn hc hok hB hcb hD hcd hk hx hl hF1 hF2 hple
    go_enter Tryz.func31, Tryz.ntmps31
    go_wp2_with (first
      | (go_at_call 35; (with_reducible refine HFI.out.mono ?_); rintro e w1 ⟨rfl, hb1⟩; have HB1 := Lib.hid hb1)
      | (at_builtin; go_loud (refine Kd.N_append_rows k36 w.heap.size rfl (.tmp 36) (.tmp 39) 31 36 (.agg #[.slice none 0 0, .slice none 0 0]) 48 rfl Tryz.underlying31 info_CP rfl (by decide) (by decide) _ _ _ _ _ _ (fun k => ok k ∨ w.heap.size ≤ k) (fun k => ok k ∧ k < w.heap.size) rfl rfl (N_empty k36 (blk_new _ _) hb1.size (.inr hb1.size)) (Kd.F_below (Kd.F_bound HF2.out) (below_alloc hb1 _)) (rows_ok (N_empty k36 (blk_new _ _) hb1.size (.inr hb1.size))) (fun k hk => .inr (by have := hb1.size; rw [World.size_alloc] at hk; omega)) (below_alloc hb1 _) (Nat.le_trans hb1.size (by rw [World.size_alloc]; omega)) (by have := HL.out; have := HPL.out; simp only [List.length_nil]; omega) ?_); intro v5 w5 hn5 hb5 hg5 hat5)
      | (at_builtin; go_loud (refine Kd.N_append k36 w.heap.size rfl (.tmp 41) (.tmp 45) 31 36 (.agg #[.slice none 0 0, .slice none 0 0]) 48 rfl Tryz.underlying31 info_CP rfl (by decide) (by decide) _ _ _ _ (fun k => ok k ∨ w.heap.size ≤ k) (fun k => ok k ∧ k < w.heap.size) rfl rfl (k36_mkF _ _ ⟨key, val⟩ HP.out.2.2.2.2.2.1 (Kd.F_below (Kd.F_bound HP.out.2.2.2.2.1) hb5) HP.out.2.2.2.2.2.2.2.1 (Kd.F_below (Kd.F_bound HP.out.2.2.2.2.2.2.1) hb5)) (rows_ok hn5) (fun k hk => .inr (by have := hb5.size; omega)) hn5 hb5 hb5.size (by have := HL.out; have := HPL.out; have := HLT.out; simp only [List.length_append, List.length_nil, List.nil_append] at *; omega) ?_); intro v6 w6 hn6 hb6 hg6 hat6)
      | (at_builtin; go_loud (refine Kd.N_append_rows k36 w.heap.size rfl (.tmp 47) (.tmp 48) 31 36 (.agg #[.slice none 0 0, .slice none 0 0]) 48 rfl Tryz.underlying31 info_CP rfl (by decide) (by decide) _ _ _ _ _ _ (fun k => ok k ∨ w.heap.size ≤ k) (fun k => ok k ∧ k < w.heap.size) rfl rfl hn6 (Kd.F_below (Kd.F_bound HF1.out) hb6) (rows_ok hn6) (fun k hk => .inr (by have := hb6.size; omega)) hb6 hb6.size (by have := HL.out; have := HPL.out; have := HLT.out; simp only [List.length_append, List.length_nil, List.nil_append, List.length_singleton] at *; omega) ?_); intro v7 w7 hn7 hb7 hg7 hat7))
    go_ret
    refine ⟨v7, rfl, ?_, hb7⟩
    rw [HRES.out]
    exact hn7

end Go.Proofs.YtdkkkikcigjlhaaGreatDoor.Md
