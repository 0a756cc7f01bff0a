/- The laws' own bounds: fewPairs, walked. The reference's cursor: a put. The reference's cursor: a move. The memory table: Delete. The memory table: Put of a key that is there. -/
import Derived.Test.YtdkkkikcigjlhaaGreatDoorMb06
import Derived.Test.YtdkkkikcigjlhaaGreatDoorMb05
import Derived.BigRegion
namespace Go.Proofs.YtdkkkikcigjlhaaGreatDoor.Md
open Go.RowKit Go.Proofs.YtdkkkikcigjlhaaGreatDoor.Con Go.Proofs.YtdkkkikcigjlhaaGreatDoor.Run Go.Proofs.YtdkkkikcigjlhaaGreatDoorW.PrintWords Go.Proofs.YtdkkkikcigjlhaaGreatDoorW.PrintMore Go.Proofs.YtdkkkikcigjlhaaGreatDoor.Cmp Go.Sort Go.RwLone Go.Proofs.YtdkkkikcigjlhaaGreatDoor.PFnMemMap
set_option linter.unusedVariables false
set_option linter.unusedSimpArgs false

theorem few_step {n i : Nat} (h : i < n) (hn : n ≤ 2147483647) : decide ((i : Int) < (n : Int)) = true ∧ wrap64 ((i : Int) + 1) = (i : Int) + 1 ∧ (i : Int) < (n : Int) := ⟨decide_eq_true (by omega), by unfold wrap64; omega, by omega⟩

theorem sp_below_fr {B : Nat} {a b c : World} {S : Nat → Prop} (h : Below B a b) (hB : B ≤ b.heap.size) (g : Fr b c S) (hS : ∀ k, S k → B ≤ k) : Below B a c :=
  ⟨g.os.trans h.os, g.tape.trans h.tape, g.output.trans h.output, Nat.le_trans h.size g.size, fun k hk => (g.block k (Nat.lt_of_lt_of_le hk hB) (fun q => by have := hS k q; omega)).trans (h.block k hk)⟩

set_option maxHeartbeats 6400000 in
set_option maxRecDepth 100000 in
theorem fewPairs_calls {w : World} {ok okm : Nat → Prop} {A Am : Option Addr} {n c mn cm : Nat} {LL : List (List S44)} {ms : List S104} (hn : LL.length = n) (hL : Kd.F kLL w ok A n LL) (hok : ∀ k, ok k → k < w.heap.size) (hmn : ms.length = mn) (hM : Kd.F k104 w okm Am mn ms) (hokm : ∀ k, okm k → k < w.heap.size)
    (b1 : n ≤ 2147483647) (b2 : ∀ l ∈ LL, l.length ≤ 2147483647) (b3 : mn ≤ 2147483647) :
    Calls Tryz.prog 23 #[.slice A n c, .slice Am mn cm] w fun e w' => e = .returned (.bool (few LL ms)) ∧ Below w.heap.size w w' := by
  have HL := Lib.hid (And.intro hL (And.intro hn b1))
  have HM := Lib.hid (And.intro hM (And.intro hmn b3))
  have HO := Lib.hid (And.intro hok hokm)
  have H2 := Lib.hid b2
  have hcl : cntL LL ≤ 2147483647 * 2147483647 := Nat.le_trans (cnt_le b2) (Nat.mul_le_mul_right _ (by omega))
  have HCL := Lib.hid hcl
  have hb0 := below_alloc (Below.refl w.heap.size w) (.cells #[.int .i64 0, .int .i64 (n : Int)] 86)
  have hk0 := blk_new w (.cells #[.int .i64 0, .int .i64 (n : Int)] 86)
  have HBD : Hid (BndAt (w.alloc (.cells #[.int .i64 0, .int .i64 (n : Int)] 86)) w.heap.size 0 n) := Lib.hid (by
    unfold BndAt
    rw [show wrap64 ((0 : Nat) : Int) = 0 by unfold wrap64; omega]
    exact hk0)
  have HBB := Lib.hid hb0
  clear hL hn hM hmn hok hokm b1 b2 b3 hcl hb0 hk0
  go_enter Tryz.func23, Tryz.ntmps23
  go_wp2
  generalize w.alloc (.cells #[.int .i64 0, .int .i64 (n : Int)] 86) = w1 at *
  go_loopg [6] n (fun k v6 w' => ∃ i : Nat, v6 = .int .i64 (i : Int) ∧ Hid (i ≤ n ∧ n ≤ i + k) ∧ Hid (BndAt w' w.heap.size (sumL (LL.take i)) (n + cntL (LL.take i))) ∧ Hid (Below w.heap.size w w'))
  case atStart => exact ⟨0, rfl, Lib.hid ⟨by omega, by omega⟩, HBD, HBB⟩
  case round =>
    obtain ⟨i, rfl, HI, HK, HB⟩ := hrel
    by_cases hi : i < n
    · obtain ⟨z0, w0, z1⟩ := few_step hi HL.out.2.2
      have HII := Lib.hid hi
      obtain ⟨l, hl⟩ : ∃ l, LL.getD i [] = l := ⟨_, rfl⟩
      have hmem : l ∈ LL := by
        rw [← hl, List.getD_eq_getElem?_getD, List.getElem?_eq_getElem (by rw [HL.out.2.1]; exact hi)]
        exact List.getElem_mem _
      have hlm := H2.out l hmem
      have htk := sp_take (l := LL) (i := i) (by rw [HL.out.2.1]; exact hi) []
      rw [hl] at htk
      have hcnt : cntL (LL.take i) + l.length ≤ cntL LL := by
        rw [← cntL_snoc, ← htk]
        have e := congrArg cntL (List.take_append_drop (i + 1) LL)
        unfold cntL at e ⊢
        rw [List.map_append, List.sum_append] at e
        omega
      have HC := Lib.hid (And.intro hlm (And.intro htk (Nat.le_trans hcnt HCL.out)))
      have HLI := Lib.hid hl
      clear hmem hlm htk hcnt hl
      obtain ⟨gk0, rfl⟩ : ∃ g, g = gk := ⟨gk, rfl⟩
      go_wp2
      generalize hml : l.length = m at *
      have HML := Lib.hid hml
      clear hml
      go_loopg [7] m (fun k v7 w' => ∃ j : Nat, v7 = .int .i64 (j : Int) ∧ Hid (j ≤ m ∧ m ≤ j + k) ∧ Hid (BndAt w' w.heap.size (sumL (LL.take i) + sumK (l.take j)) (n + cntL (LL.take i) + j)) ∧ Hid (Below w.heap.size w w'))
      case atStart => exact ⟨0, rfl, Lib.hid ⟨by omega, by omega⟩, HK, HB⟩
      case round =>
        obtain ⟨j, rfl, HJ, HKJ, HBJ⟩ := hrel
        obtain ⟨ad, A1, c1, hA, r0, hc1, hF1⟩ := LL_at (Kd.F_below HL.out.1 HBJ.out) hi HLI.out
        subst hA
        rw [HML.out] at r0
        by_cases hj : j < m
        · obtain ⟨y0, x0, y1⟩ := few_step hj HC.out.1
          obtain ⟨x, hx⟩ : ∃ x, l.getD j (⟨[], []⟩ : S44) = x := ⟨_, rfl⟩
          obtain ⟨ad2, K, kc, V, vc, hA2, s0, s1, -, -, -, -⟩ := kv_at (n := m) (by rw [← HML.out]; exact hF1) hj hx
          subst hA2
          have htk2 := sp_take (l := l) (i := j) (by rw [HML.out]; exact hj) (⟨[], []⟩ : S44)
          rw [hx] at htk2
          have hsn : sumK (l.take (j + 1)) = sumK (l.take j) + (x.f0.length + x.f1.length) := by rw [htk2, sumK_snoc]
          have HSN := Lib.hid hsn
          have HJJ := Lib.hid hj
          clear hx htk2 hsn hc1 hF1
          generalize x.f0.length = kn at *
          generalize x.f1.length = vn at *
          go_upto_region 9 with (fail)
          refine still_tail 16 (by kernel_rfl) (by kernel_rfl) ?_
          intro W3 hW3
          have r0 := drew_cell hW3 r0
          have s0 := drew_cell hW3 s0
          have s1 := drew_cell hW3 s1
          have k3 : Hid (BndAt W3 w.heap.size (sumL (LL.take i) + sumK (l.take j)) (n + cntL (LL.take i) + j)) := by rw [hW3]; exact Lib.hid HKJ.out
          have g3 : Hid (Below w.heap.size w W3) := by rw [hW3]; exact Lib.hid HBJ.out.drew
          clear hW3
          simp only [List.take_succ_cons, List.take_zero, List.drop_succ_cons, List.drop_zero]
          repeat still_step
          refine wpStill_nil ?_
          have hA := Lib.hid (k3.out.two (K := K) (V := V) (kn := kn) (vn := vn) (kc := kc) (vc := vc) (by have := HC.out.2.2; have := HL.out.2.2; have := HJJ.out; have := HC.out.1; omega))
          go_wp2_with (go_at_call 44; (with_reducible refine hA.out.mono ?_); rintro e w4 ⟨rfl, hk4, hf4⟩)
          go_roundg (gk - 1)
          case measure => have := HJ.out; have := HJJ.out; omega
          case rel =>
            refine ⟨j + 1, (by first | rfl | exact congrArg _ x0), Lib.hid (by have := HJ.out; have := HJJ.out; omega), Lib.hid ?_, Lib.hid (sp_below_fr g3.out g3.out.size hf4.out (fun k hk => by rw [hk]; exact Nat.le_refl _))⟩
            rw [HSN.out, ← Nat.add_assoc, ← Nat.add_assoc]
            have := hk4.out
            rw [← Nat.add_assoc] at this
            exact this
        · have y0 : decide ((j : Int) < (m : Int)) = false := decide_eq_false (by omega)
          have hjm : j = m := by have := HJ.out; omega
          have HJM := Lib.hid hjm
          clear hjm
          have e1 : l.take j = l := by rw [HJM.out, ← HML.out, List.take_length]
          have hk : BndAt wr w.heap.size (sumL (LL.take (i + 1))) (n + cntL (LL.take (i + 1))) := by
            have hk := HKJ.out
            rw [e1] at hk
            rw [HC.out.2.1, sumL_snoc, cntL_snoc, HML.out, ← HJM.out, ← Nat.add_assoc]
            exact hk
          have HK2 := Lib.hid hk
          clear hk e1
          go_wp2
          go_roundg (gk0 - 1)
          case measure => have := HI.out; have := HII.out; omega
          case rel => exact ⟨i + 1, (by first | rfl | exact congrArg _ w0), Lib.hid (by have := HI.out; have := HII.out; omega), HK2, HBJ⟩
    · have z0 : decide ((i : Int) < (n : Int)) = false := decide_eq_false (by omega)
      have hin : i = n := by have := HI.out; omega
      have e : LL.take i = LL := by rw [hin, ← HL.out.2.1, List.take_length]
      rw [e] at HK
      clear hin e
      go_wp2
      go_loopg [8] mn (fun k v8 w' => ∃ j : Nat, v8 = .int .i64 (j : Int) ∧ Hid (j ≤ mn ∧ mn ≤ j + k) ∧ Hid (BndAt w' w.heap.size (sumL LL + sumM (ms.take j)) (n + cntL LL + j)) ∧ Hid (Below w.heap.size w w'))
      case atStart => exact ⟨0, rfl, Lib.hid ⟨by omega, by omega⟩, HK, HB⟩
      case round =>
        obtain ⟨j, rfl, HJ, HKJ, HBJ⟩ := hrel
        by_cases hj : j < mn
        · obtain ⟨y0, x0, y1⟩ := few_step hj HM.out.2.2
          obtain ⟨x, hx⟩ : ∃ x, ms.getD j (⟨0, []⟩ : S104) = x := ⟨_, rfl⟩
          obtain ⟨ad2, K, kc, hA2, s0, s1, -, -⟩ := mv_at (Kd.F_below HM.out.1 HBJ.out) hj hx
          subst hA2
          have htk2 := sp_take (l := ms) (i := j) (by rw [HM.out.2.1]; exact hj) (⟨0, []⟩ : S104)
          rw [hx] at htk2
          have hsn : sumM (ms.take (j + 1)) = sumM (ms.take j) + x.f1.length := by rw [htk2, sumM_snoc]
          have HSN := Lib.hid hsn
          have HJJ := Lib.hid hj
          clear hx htk2 hsn s0
          generalize x.f1.length = kn at *
          have hA := Lib.hid (HKJ.out.one (K := K) (kn := kn) (kc := kc) (by have := HCL.out; have := HL.out.2.2; have := HJJ.out; have := HM.out.2.2; omega))
          go_wp2_with (go_at_call 44; (with_reducible refine hA.out.mono ?_); rintro e w4 ⟨rfl, hk4, hf4⟩)
          go_roundg (gk - 1)
          case measure => have := HJ.out; have := HJJ.out; omega
          case rel =>
            refine ⟨j + 1, (by first | rfl | exact congrArg _ x0), Lib.hid (by have := HJ.out; have := HJJ.out; omega), Lib.hid ?_, Lib.hid (sp_below_fr HBJ.out HBJ.out.size hf4.out (fun k hk => by rw [hk]; exact Nat.le_refl _))⟩
            rw [HSN.out, ← Nat.add_assoc, ← Nat.add_assoc]
            exact hk4.out
        · have y0 : decide ((j : Int) < (mn : Int)) = false := decide_eq_false (by omega)
          have hjm : j = mn := by have := HJ.out; omega
          have hk := HKJ.out
          rw [hjm, ← HM.out.2.1, List.take_length] at hk
          have HKF := Lib.hid hk
          clear hjm hk
          have HWI : Hid (Calls Tryz.prog 45 #[.pointer (some ⟨w.heap.size, 0, none⟩)] wr fun e w' => e = .returned (.bool (few LL ms)) ∧ wr = w') := Lib.hid ((within_calls HKF.out).mono (by
            rintro e w' ⟨rfl, rfl⟩
            refine ⟨?_, rfl⟩
            unfold few
            rw [HL.out.2.1]))
          go_wp2_with (go_at_call 45; (with_reducible refine HWI.out.mono ?_); rintro e w4 ⟨rfl, rfl⟩)
          go_ret
          exact ⟨rfl, HBJ.out⟩

end Go.Proofs.YtdkkkikcigjlhaaGreatDoor.Md

namespace Go.Proofs.YtdkkkikcigjlhaaGreatDoor.Md
open Go.RowKit Go.Proofs.YtdkkkikcigjlhaaGreatDoor.Con Go.Proofs.YtdkkkikcigjlhaaGreatDoor.Run Go.Proofs.YtdkkkikcigjlhaaGreatDoorW.PrintWords Go.Proofs.YtdkkkikcigjlhaaGreatDoorW.PrintMore Go.Proofs.YtdkkkikcigjlhaaGreatDoor.Cmp Go.Sort Go.RwLone Go.Proofs.YtdkkkikcigjlhaaGreatDoor.PFnMemMap
set_option linter.unusedVariables false
set_option linter.unusedSimpArgs false

theorem info_CP : (Tryz.prog.info? 36).map (fun i => (i.zero, i.size, i.bytes)) = some (some (.agg #[.slice none 0 0, .slice none 0 0]), 2, 48) := by kernel_rfl

theorem N_empty {α : Type} (d : Kd α) {W : World} {base g : Nat} {e : TypeId} {ok : Nat → Prop} (h : W.heap[g]? = some (.cells #[] e (0, 0))) (hb : base ≤ g) (hok : ok g) : Kd.N d e W base ok (.slice (some ⟨g, 0, none⟩) 0 0) [] := by
  refine ⟨fun k hk => ?_, [], rfl, ⟨fun k hk => hk.symm, [], ⟨by simp, .inr ⟨g, 0, #[], rfl, hb, h, Nat.le_refl _, by omega, by simp, by simp⟩⟩, ⟨by simp, fun j p hj => by simp at hj⟩⟩, fun j x c hj => by simp at hj⟩
  have e : (Value.slice (some (⟨g, 0, none⟩ : Addr)) 0 0).ownBlock = some g := rfl
  rw [e] at hk
  injection hk with hk
  exact hk ▸ hok

/-- a list cut from a place on -/
theorem cutF {w : World} {ok : Nat → Prop} {A : Option Addr} {n c : Nat} {l : List S36} (h : Kd.F k36 w ok A n l) (hn : l.length = n) (hc : n ≤ c) (j : Int) (p : Nat) (hj : j.toNat = p) (h0 : 0 ≤ j) (hp : p ≤ n) :
    ∃ A' c', (∀ W : World, (Instr.slice 31 (.slice A n c) (some (.int .i64 j)) none none).run Tryz.prog W = .ok (.slice A' (n - p) c') W) ∧ Kd.F k36 w ok A' (n - p) (l.drop p) := by
  obtain ⟨i0, hi, hzz⟩ := Option.map_eq_some_iff.1 info_CP
  simp only [Prod.mk.injEq] at hzz
  have hs := cut_from (P := Tryz.prog) 31 36 .i64 Tryz.underlying31 hi 2 hzz.2.1 A n c j h0 (by omega)
  rw [hj] at hs
  subst hn
  have hf := Kd.F_cut h hp hc
  rw [List.length_drop] at hf
  exact ⟨_, _, hs, hf⟩

theorem cutT {w : World} {ok : Nat → Prop} {A : Option Addr} {n c : Nat} {l : List S36} (h : Kd.F k36 w ok A n l) (hn : l.length = n) (hc : n ≤ c) (p : Nat) (hp : p ≤ n) :
    (∀ W : World, (Instr.slice 31 (.slice A n c) none (some (.int .i64 (p : Int))) none).run Tryz.prog W = .ok (.slice A p c) W) ∧ Kd.F k36 w ok A p (l.take p) := by
  obtain ⟨i0, hi, hzz⟩ := Option.map_eq_some_iff.1 info_CP
  have hs := cut_to (P := Tryz.prog) 31 36 .i64 Tryz.underlying31 hi A n c (p : Int) (Int.natCast_nonneg _) (by omega) hc
  rw [Int.toNat_natCast] at hs
  refine ⟨hs, ?_⟩
  subst hn
  have := Kd.F_take h hp
  rw [List.length_take, Nat.min_eq_left hp] at this
  exact this

theorem hit_at {f : List Int → List Int → Int} {key : List Int} {l : List S36} : hitL f key (kvC l) = (decide (findL f key (kvC l) < l.length) && decide ((l.getD (findL f key (kvC l)) (⟨[], []⟩ : S36)).f0 = key)) := by
  unfold hitL
  rw [kvC_get]
  by_cases h : findL f key (kvC l) < l.length
  · rw [List.getElem?_eq_getElem h, decide_eq_true h]
    simp [List.getD_eq_getElem?_getD, List.getElem?_eq_getElem h]
  · rw [List.getElem?_eq_none (by omega), decide_eq_false h]
    rfl

/-- a pair's key and value, by its number -/
theorem cp_at {w : World} {ok : Nat → Prop} {A : Option Addr} {n : Nat} {l : List S36} (h : Kd.F k36 w ok A n l) {j : Nat} (hj : j < n) {x : S36} (hx : l.getD j (⟨[], []⟩ : S36) = x) :
    ∃ ad A1 c1 A2 c2, A = some ad ∧ w.cell? (ad.add (j * 2)) = some (.slice A1 x.f0.length c1) ∧ w.cell? ⟨(ad.add (j * 2)).block, (ad.add (j * 2)).off + 1, none⟩ = some (.slice A2 x.f1.length c2) ∧ Kd.F (Kd.int .u8) w ok A1 x.f0.length x.f0 ∧ Kd.F (Kd.int .u8) w ok A2 x.f1.length x.f1 ∧ x.f0.length ≤ c1 ∧ x.f1.length ≤ c2 := by
  obtain ⟨ad, cs', rfl, hcl, hK, hcell, hokb⟩ := Kd.F_get h (⟨[], []⟩ : S36) (j : Int) (Int.natCast_nonneg _) (by omega)
  obtain ⟨A1, c1, A2, c2, rfl, hl1, hF1, hl2, hF2⟩ := k36_openF hK
  have r0 := hcell 0 _ rfl
  have r1 := hcell 1 _ rfl
  rw [Int.toNat_natCast, hx] at r0 r1 hF1 hF2 hl1 hl2
  have e3 : j * k36.sz + 1 = j * 2 + 1 := rfl
  rw [e3, add_field ad (j * 2) 1 (by omega)] at r1
  exact ⟨ad, A1, c1, A2, c2, rfl, r0, r1, hF1, hF2, hl1, hl2⟩

/-- what a put tells -/
def CpuTold (ok : Nat → Prop) (r : List S36) (w : World) (e : Ending) (w' : World) : Prop := ∃ v, e = .returned v ∧ Kd.N k36 36 w' w.heap.size (fun k => ok k ∨ w.heap.size ≤ k) v r ∧ Below w.heap.size w w'

theorem rows_ok {w W : World} {ok : Nat → Prop} {v : Value} {xs : List S36} (h : Kd.N k36 36 W w.heap.size (fun k => ok k ∨ w.heap.size ≤ k) v xs) : ∀ k, (ok k ∧ k < w.heap.size) → (ok k ∨ w.heap.size ≤ k) ∧ some k ≠ v.ownBlock :=
  fun k hk => ⟨.inl hk.1, fun e => by have := Kd.N_base h k e.symm; omega⟩

set_option maxHeartbeats 6400000 in
set_option maxRecDepth 100000 in
theorem cput_calls {w : World} {ok : Nat → Prop} {A B D : Option Addr} {n c cb cd : Nat} {l : List S36} {key val : List Int} (o : Int) (hA : Kd.F k36 w ok A n l) (hn : l.length = n) (hc : n ≤ c) (hok : ∀ k, ok k → k < w.heap.size) (hB : Kd.F (Kd.int .u8) w ok B key.length key) (hcb : key.length ≤ cb) (hD : Kd.F (Kd.int .u8) w ok D val.length val) (hcd : val.length ≤ cd)
    (hk : key.length ≤ 4294967296) (hx : ∀ x ∈ l, x.f0.length ≤ 4294967296) (hl : n ≤ 4294967296) :
    Calls Tryz.prog 31 #[.int .i64 o, .slice A n c, .slice B key.length cb, .slice D val.length cd] w fun e w' => CpuTold ok (putC (cmpO o) key val l) w e w' := by
  have HP := Lib.hid (And.intro hA (And.intro hn (And.intro hc (And.intro hok (And.intro hB (And.intro hcb (And.intro hD (And.intro hcd hl))))))))
  have HFI := Lib.hid (find_calls (c := c) (d := cb) o (Kd.F_now (show Kd.F k36 w ok A l.length l by rw [hn]; exact hA)) (by rw [hn]; exact hc) (Kd.F_now hB) hcb hk hx (by rw [hn]; exact hl))
  rw [hn] at HFI
  have hple := findL_le (cmpO o) key (kvC l)
  rw [kvC_len, hn] at hple
  have HHIT := Lib.hid (hit_at (f := cmpO o) (key := key) (l := l))
  have HRES : Hid (putC (cmpO o) key val l = (l.take (findL (cmpO o) key (kvC l)) ++ [⟨key, val⟩]) ++ (if hitL (cmpO o) key (kvC l) = true then l.drop (findL (cmpO o) key (kvC l) + 1) else l.drop (findL (cmpO o) key (kvC l)))) := Lib.hid rfl
  generalize findL (cmpO o) key (kvC l) = p at *
  generalize hitL (cmpO o) key (kvC l) = ht at *
  have HPL := Lib.hid hple
  have HL := Lib.hid hl
  have HLT := Lib.hid (show (l.take p).length = p by rw [List.length_take, hn, Nat.min_eq_left hple])
  obtain ⟨A1, c1, s1, hF1⟩ := cutF hA hn hc (p : Int) p (Int.toNat_natCast _) (Int.natCast_nonneg _) hple
  obtain ⟨s2, hF2⟩ := cutT hA hn hc p hple
  have HF1 := Lib.hid hF1
  have HF2 := Lib.hid hF2
  by_cases hlt : p < n
  · obtain ⟨x, hxx⟩ : ∃ x, l.getD p (⟨[], []⟩ : S36) = x := ⟨_, rfl⟩
    obtain ⟨ad, K, kc, V, vc, hAA, r0, r1, hKF, -, hkc, -⟩ := cp_at hA hlt hxx
    subst hAA
    obtain ⟨A3, c3, s3, hF3⟩ := cutF hA hn hc ((p : Int) + 1) (p + 1) (by omega) (by omega) hlt
    have HF3 := Lib.hid hF3
    have HK := Lib.hid (And.intro hKF hkc)
    have HR0 := Lib.hid r0
    have hht := HHIT.out
    rw [hn, decide_eq_true hlt, Bool.true_and, hxx] at hht
    have HHT := Lib.hid hht
    have z0 : decide ((p : Int) < (n : Int)) = true := decide_eq_true (by omega)
    have z1 : (p : Int) < (n : Int) := by omega
    have w0 : wrap64 ((p : Int) + 1) = (p : Int) + 1 := by unfold wrap64; omega
    clear hht
    clear hA hn hc hok hB hcb hD hcd hk hx hl hF1 hF2 hple hKF hkc hF3 r0 r1
    have hsame : ∀ w1, Below w.heap.size w w1 → Hid (Calls Tryz.prog 20 #[.slice K x.f0.length kc, .slice B key.length cb] w1 fun e w' => e = .returned (.bool ht) ∧ Below w1.heap.size w1 w') := fun w1 hb => Lib.hid (by
      rw [HHT.out]
      exact same_calls (Kd.F_now (Kd.F_below HK.out.1 hb)) HK.out.2 (Kd.F_now (Kd.F_below HP.out.2.2.2.2.1 hb)) HP.out.2.2.2.2.2.1)
    cases ht with
    | true =>
      go_enter Tryz.func31, Tryz.ntmps31
      go_wp2_with (first
      | (go_at_call 35; (with_reducible refine HFI.out.mono ?_); rintro e w1 ⟨rfl, hb1⟩; have HB1 := Lib.hid hb1; have r0 := pw_cell_below hb1 HR0.out)
      | (go_at_call 20; (with_reducible refine (hsame _ hb1).out.mono ?_); rintro e w2 ⟨rfl, hb2⟩; have hb12 := hb1.trans (hb2.mono hb1.size))
      | (at_builtin; go_loud (refine Kd.N_append_rows k36 w.heap.size rfl (.tmp 36) (.tmp 39) 31 36 (.agg #[.slice none 0 0, .slice none 0 0]) 48 rfl Tryz.underlying31 info_CP rfl (by decide) (by decide) _ _ _ _ _ _ (fun k => ok k ∨ w.heap.size ≤ k) (fun k => ok k ∧ k < w.heap.size) rfl rfl (N_empty k36 (blk_new _ _) hb12.size (.inr hb12.size)) (Kd.F_below (Kd.F_bound HF2.out) (below_alloc hb12 _)) (rows_ok (N_empty k36 (blk_new _ _) hb12.size (.inr hb12.size))) (fun k hk => .inr (by have := hb12.size; rw [World.size_alloc] at hk; omega)) (below_alloc hb12 _) (Nat.le_trans hb12.size (by rw [World.size_alloc]; omega)) (by have := HL.out; have := HPL.out; simp only [List.length_nil]; omega) ?_); intro v5 w5 hn5 hb5 hg5 hat5)
      | (at_builtin; go_loud (refine Kd.N_append k36 w.heap.size rfl (.tmp 41) (.tmp 45) 31 36 (.agg #[.slice none 0 0, .slice none 0 0]) 48 rfl Tryz.underlying31 info_CP rfl (by decide) (by decide) _ _ _ _ (fun k => ok k ∨ w.heap.size ≤ k) (fun k => ok k ∧ k < w.heap.size) rfl rfl (k36_mkF _ _ ⟨key, val⟩ HP.out.2.2.2.2.2.1 (Kd.F_below (Kd.F_bound HP.out.2.2.2.2.1) hb5) HP.out.2.2.2.2.2.2.2.1 (Kd.F_below (Kd.F_bound HP.out.2.2.2.2.2.2.1) hb5)) (rows_ok hn5) (fun k hk => .inr (by have := hb5.size; omega)) hn5 hb5 hb5.size (by have := HL.out; have := HPL.out; have := HLT.out; simp only [List.length_append, List.length_nil, List.nil_append] at *; omega) ?_); intro v6 w6 hn6 hb6 hg6 hat6)
      | (at_builtin; go_loud (refine Kd.N_append_rows k36 w.heap.size rfl (.tmp 47) (.tmp 48) 31 36 (.agg #[.slice none 0 0, .slice none 0 0]) 48 rfl Tryz.underlying31 info_CP rfl (by decide) (by decide) _ _ _ _ _ _ (fun k => ok k ∨ w.heap.size ≤ k) (fun k => ok k ∧ k < w.heap.size) rfl rfl hn6 (Kd.F_below (Kd.F_bound HF3.out) hb6) (rows_ok hn6) (fun k hk => .inr (by have := hb6.size; omega)) hb6 hb6.size (by have := HL.out; have := HPL.out; have := HLT.out; simp only [List.length_append, List.length_nil, List.nil_append, List.length_singleton] at *; omega) ?_); intro v7 w7 hn7 hb7 hg7 hat7))
      go_ret
      refine ⟨v7, rfl, ?_, hb7⟩
      rw [HRES.out]
      exact hn7
    | false =>
      go_enter Tryz.func31, Tryz.ntmps31
      go_wp2_with (first
      | (go_at_call 35; (with_reducible refine HFI.out.mono ?_); rintro e w1 ⟨rfl, hb1⟩; have HB1 := Lib.hid hb1; have r0 := pw_cell_below hb1 HR0.out)
      | (go_at_call 20; (with_reducible refine (hsame _ hb1).out.mono ?_); rintro e w2 ⟨rfl, hb2⟩; have hb12 := hb1.trans (hb2.mono hb1.size))
      | (at_builtin; go_loud (refine Kd.N_append_rows k36 w.heap.size rfl (.tmp 36) (.tmp 39) 31 36 (.agg #[.slice none 0 0, .slice none 0 0]) 48 rfl Tryz.underlying31 info_CP rfl (by decide) (by decide) _ _ _ _ _ _ (fun k => ok k ∨ w.heap.size ≤ k) (fun k => ok k ∧ k < w.heap.size) rfl rfl (N_empty k36 (blk_new _ _) hb12.size (.inr hb12.size)) (Kd.F_below (Kd.F_bound HF2.out) (below_alloc hb12 _)) (rows_ok (N_empty k36 (blk_new _ _) hb12.size (.inr hb12.size))) (fun k hk => .inr (by have := hb12.size; rw [World.size_alloc] at hk; omega)) (below_alloc hb12 _) (Nat.le_trans hb12.size (by rw [World.size_alloc]; omega)) (by have := HL.out; have := HPL.out; simp only [List.length_nil]; omega) ?_); intro v5 w5 hn5 hb5 hg5 hat5)
      | (at_builtin; go_loud (refine Kd.N_append k36 w.heap.size rfl (.tmp 41) (.tmp 45) 31 36 (.agg #[.slice none 0 0, .slice none 0 0]) 48 rfl Tryz.underlying31 info_CP rfl (by decide) (by decide) _ _ _ _ (fun k => ok k ∨ w.heap.size ≤ k) (fun k => ok k ∧ k < w.heap.size) rfl rfl (k36_mkF _ _ ⟨key, val⟩ HP.out.2.2.2.2.2.1 (Kd.F_below (Kd.F_bound HP.out.2.2.2.2.1) hb5) HP.out.2.2.2.2.2.2.2.1 (Kd.F_below (Kd.F_bound HP.out.2.2.2.2.2.2.1) hb5)) (rows_ok hn5) (fun k hk => .inr (by have := hb5.size; omega)) hn5 hb5 hb5.size (by have := HL.out; have := HPL.out; have := HLT.out; simp only [List.length_append, List.length_nil, List.nil_append] at *; omega) ?_); intro v6 w6 hn6 hb6 hg6 hat6)
      | (at_builtin; go_loud (refine Kd.N_append_rows k36 w.heap.size rfl (.tmp 47) (.tmp 48) 31 36 (.agg #[.slice none 0 0, .slice none 0 0]) 48 rfl Tryz.underlying31 info_CP rfl (by decide) (by decide) _ _ _ _ _ _ (fun k => ok k ∨ w.heap.size ≤ k) (fun k => ok k ∧ k < w.heap.size) rfl rfl hn6 (Kd.F_below (Kd.F_bound HF1.out) hb6) (rows_ok hn6) (fun k hk => .inr (by have := hb6.size; omega)) hb6 hb6.size (by have := HL.out; have := HPL.out; have := HLT.out; simp only [List.length_append, List.length_nil, List.nil_append, List.length_singleton] at *; omega) ?_); intro v7 w7 hn7 hb7 hg7 hat7))
      go_ret
      refine ⟨v7, rfl, ?_, hb7⟩
      rw [HRES.out]
      exact hn7
  · have hht := HHIT.out
    rw [hn, decide_eq_false hlt, Bool.false_and] at hht
    subst hht
    have z0 : decide ((p : Int) < (n : Int)) = false := decide_eq_false (by omega)
    clear hA hn hc hok hB hcb hD hcd hk hx hl hF1 hF2 hple
    go_enter Tryz.func31, Tryz.ntmps31
    go_wp2_with (first
      | (go_at_call 35; (with_reducible refine HFI.out.mono ?_); rintro e w1 ⟨rfl, hb1⟩; have HB1 := Lib.hid hb1)
      | (at_builtin; go_loud (refine Kd.N_append_rows k36 w.heap.size rfl (.tmp 36) (.tmp 39) 31 36 (.agg #[.slice none 0 0, .slice none 0 0]) 48 rfl Tryz.underlying31 info_CP rfl (by decide) (by decide) _ _ _ _ _ _ (fun k => ok k ∨ w.heap.size ≤ k) (fun k => ok k ∧ k < w.heap.size) rfl rfl (N_empty k36 (blk_new _ _) hb1.size (.inr hb1.size)) (Kd.F_below (Kd.F_bound HF2.out) (below_alloc hb1 _)) (rows_ok (N_empty k36 (blk_new _ _) hb1.size (.inr hb1.size))) (fun k hk => .inr (by have := hb1.size; rw [World.size_alloc] at hk; omega)) (below_alloc hb1 _) (Nat.le_trans hb1.size (by rw [World.size_alloc]; omega)) (by have := HL.out; have := HPL.out; simp only [List.length_nil]; omega) ?_); intro v5 w5 hn5 hb5 hg5 hat5)
      | (at_builtin; go_loud (refine Kd.N_append k36 w.heap.size rfl (.tmp 41) (.tmp 45) 31 36 (.agg #[.slice none 0 0, .slice none 0 0]) 48 rfl Tryz.underlying31 info_CP rfl (by decide) (by decide) _ _ _ _ (fun k => ok k ∨ w.heap.size ≤ k) (fun k => ok k ∧ k < w.heap.size) rfl rfl (k36_mkF _ _ ⟨key, val⟩ HP.out.2.2.2.2.2.1 (Kd.F_below (Kd.F_bound HP.out.2.2.2.2.1) hb5) HP.out.2.2.2.2.2.2.2.1 (Kd.F_below (Kd.F_bound HP.out.2.2.2.2.2.2.1) hb5)) (rows_ok hn5) (fun k hk => .inr (by have := hb5.size; omega)) hn5 hb5 hb5.size (by have := HL.out; have := HPL.out; have := HLT.out; simp only [List.length_append, List.length_nil, List.nil_append] at *; omega) ?_); intro v6 w6 hn6 hb6 hg6 hat6)
      | (at_builtin; go_loud (refine Kd.N_append_rows k36 w.heap.size rfl (.tmp 47) (.tmp 48) 31 36 (.agg #[.slice none 0 0, .slice none 0 0]) 48 rfl Tryz.underlying31 info_CP rfl (by decide) (by decide) _ _ _ _ _ _ (fun k => ok k ∨ w.heap.size ≤ k) (fun k => ok k ∧ k < w.heap.size) rfl rfl hn6 (Kd.F_below (Kd.F_bound HF1.out) hb6) (rows_ok hn6) (fun k hk => .inr (by have := hb6.size; omega)) hb6 hb6.size (by have := HL.out; have := HPL.out; have := HLT.out; simp only [List.length_append, List.length_nil, List.nil_append, List.length_singleton] at *; omega) ?_); intro v7 w7 hn7 hb7 hg7 hat7))
    go_ret
    refine ⟨v7, rfl, ?_, hb7⟩
    rw [HRES.out]
    exact hn7

end Go.Proofs.YtdkkkikcigjlhaaGreatDoor.Md

namespace Go.Proofs.YtdkkkikcigjlhaaGreatDoor.Md
open Go.RowKit Go.Proofs.YtdkkkikcigjlhaaGreatDoor.Con Go.Proofs.YtdkkkikcigjlhaaGreatDoor.Run Go.Proofs.YtdkkkikcigjlhaaGreatDoorW.PrintWords Go.Proofs.YtdkkkikcigjlhaaGreatDoorW.PrintMore Go.Proofs.YtdkkkikcigjlhaaGreatDoor.Cmp Go.Sort Go.Proofs.YtdkkkikcigjlhaaGreatDoor.PFnMemMap
set_option linter.unusedVariables false
set_option linter.unusedSimpArgs false
attribute [local go_sem] max2_int min2_int max_two min_two

def curV (o : Int) (A : Option Addr) (n c : Nat) (i : Int) : Value := .agg #[.int .i64 o, .slice A n c, .int .i64 i]

/-- what a move tells -/
def CmTold (o : Int) (A : Option Addr) (n c : Nat) (L : List KV) (w : World) (j : Int) (e : Ending) (w' : World) : Prop :=
  e = .returned (.tuple #[curV o A n c j, .bool (onL L j)]) ∧ Below w.heap.size w w'

theorem two_new (w : World) (x y : Array Value) (t : TypeId) : ((w.alloc (.cells x t)).alloc (.cells y t)).heap[w.heap.size]? = some (.cells x t (0, 0)) ∧ ((w.alloc (.cells x t)).alloc (.cells y t)).heap[w.heap.size + 1]? = some (.cells y t (0, 0)) ∧ Below w.heap.size w ((w.alloc (.cells x t)).alloc (.cells y t)) := by
  have h1 := below_alloc (Below.refl w.heap.size w) (.cells x t)
  have n1 := blk_new w (.cells x t)
  have n2 := blk_new (w.alloc (.cells x t)) (.cells y t)
  rw [World.size_alloc] at n2
  have h2 := below_alloc (Below.refl (w.alloc (.cells x t)).heap.size (w.alloc (.cells x t))) (.cells y t)
  exact ⟨(h2.block _ (blk_lt n1)).trans n1, n2, h1.trans (h2.mono h1.size)⟩

set_option maxHeartbeats 6400000 in
theorem move_c {w : World} {A B : Option Addr} {n c d : Nat} {l : List S36} {key : List Int} (o i m : Int) (hA : Kd.C k36 w A n l) (hn : l.length = n) (hc : n ≤ c) (hB : Kd.C (Kd.int .u8) w B key.length key) (hd : key.length ≤ d) (hk : key.length ≤ 4294967296) (hx : ∀ x ∈ l, x.f0.length ≤ 4294967296) (hl : n ≤ 4294967296) (hi : -1 ≤ i ∧ i ≤ (n : Int)) :
    Calls Tryz.prog 64 #[curV o A n c i, .int .i64 m, .slice B key.length d] w fun e w' => CmTold o A n c (kvC l) w (mvL (cmpO o) (kvC l) i m key) e w' := by
  subst hn
  have HA := Lib.hid (And.intro hA (And.intro hc (And.intro hB (And.intro hd (And.intro hk (And.intro hx hl))))))
  have HL := Lib.hid hl
  have HI := Lib.hid hi
  have hlen : (kvC l).length = l.length := kvC_len l
  have HLN := Lib.hid hlen
  have H2 := Lib.hid (two_new w #[.int .i64 o, .slice A l.length c, .int .i64 i] #[.int .i64 0, .slice none 0 0, .int .i64 0] 116)
  clear hA hc hB hd hk hx hl hi hlen
  unfold curV
  go_enter Tryz.func64, Tryz.ntmps64
  go_upto_region 1 with (fail)
  have ha := H2.out.1
  have hb := H2.out.2.1
  have HBL := Lib.hid H2.out.2.2
  clear H2
  generalize (w.alloc (.cells #[.int .i64 o, .slice A l.length c, .int .i64 i] 116)).alloc (.cells #[.int .i64 0, .slice none 0 0, .int .i64 0] 116) = w1 at *
  have k0 : w1.cell? ⟨w.heap.size, 0, none⟩ = some (.int .i64 o) := (blk_cell ha 0).trans rfl
  have k1 : w1.cell? ⟨w.heap.size, 1, none⟩ = some (.slice A l.length c) := (blk_cell ha 1).trans rfl
  have k2 : w1.cell? ⟨w.heap.size, 2, none⟩ = some (.int .i64 i) := (blk_cell ha 2).trans rfl
  have f2 : w1.frozen? ⟨w.heap.size, 2, none⟩ = false := blk_frozen ha 2
  have HAB := Lib.hid (And.intro ha hb)
  clear ha hb
  go_upto_block 0 with (fail)
  go_cut [] (fun wc => Hid (wc.heap[w.heap.size]? = some (.cells #[.int .i64 o, .slice A l.length c, .int .i64 (mvL (cmpO o) (kvC l) i m key)] 116 (0, 0)) ∧ wc.heap[w.heap.size + 1]? = some (.cells #[.int .i64 0, .slice none 0 0, .int .i64 0] 116 (0, 0)) ∧ Below w.heap.size w wc))
  case first =>
    have fin : ∀ j, mvL (cmpO o) (kvC l) i m key = j → Hid ((w1.setCell ⟨w.heap.size, 2, none⟩ (.int .i64 j)).heap[w.heap.size]? = some (.cells #[.int .i64 o, .slice A l.length c, .int .i64 (mvL (cmpO o) (kvC l) i m key)] 116 (0, 0)) ∧ (w1.setCell ⟨w.heap.size, 2, none⟩ (.int .i64 j)).heap[w.heap.size + 1]? = some (.cells #[.int .i64 0, .slice none 0 0, .int .i64 0] 116 (0, 0)) ∧ Below w.heap.size w (w1.setCell ⟨w.heap.size, 2, none⟩ (.int .i64 j))) := fun j hj => Lib.hid ⟨by rw [hj]; exact blk_set HAB.out.1 2 _, (Below.heap_setCell _ _ _ _ (by simp)).trans HAB.out.2, below_set HBL.out (Nat.le_refl _)⟩
    have FIN := Lib.hid fin
    clear fin
    by_cases h0 : m = 0
    · have z0 : (m == 0) = true := by rw [beq_iff_eq]; exact h0
      have HM : Hid (mvL (cmpO o) (kvC l) i m key = 0) := Lib.hid (by unfold mvL; rw [if_pos h0])
      clear h0
      go_wp2
      go_meet
      case rel => exact FIN.out _ HM.out
    · have z0 : (m == 0) = false := by rw [beq_eq_false_iff_ne]; exact h0
      by_cases h1 : m = 1
      · have z1 : (m == 1) = true := by rw [beq_iff_eq]; exact h1
        have w1' : wrap64 ((l.length : Int) - 1) = (l.length : Int) - 1 := by have := HL.out; unfold wrap64; omega
        have HM : Hid (mvL (cmpO o) (kvC l) i m key = (l.length : Int) - 1) := Lib.hid (by unfold mvL; rw [if_neg h0, if_pos h1, HLN.out])
        clear h0 h1
        go_wp2
        go_meet
        case rel => first | exact FIN.out _ HM.out | (rw [w1']; exact FIN.out _ HM.out)
      · have z1 : (m == 1) = false := by rw [beq_eq_false_iff_ne]; exact h1
        by_cases h2 : m = 2
        · have z2 : (m == 2) = true := by rw [beq_iff_eq]; exact h2
          have w1' : wrap64 (i + 1) = i + 1 := by have := HL.out; have := HI.out; unfold wrap64; omega
          have HM : Hid (mvL (cmpO o) (kvC l) i m key = if i + 1 ≤ (l.length : Int) then i + 1 else (l.length : Int)) := Lib.hid (by unfold mvL; rw [if_neg h0, if_neg h1, if_pos h2, HLN.out])
          clear h0 h1 h2
          go_wp2
          all_goals (
            go_meet
            case rel =>
              refine FIN.out _ (HM.out.trans ?_)
              split <;> omega)
        · have z2 : (m == 2) = false := by rw [beq_eq_false_iff_ne]; exact h2
          by_cases h3 : m = 3
          · have z3 : (m == 3) = true := by rw [beq_iff_eq]; exact h3
            have w1' : wrap64 (i - 1) = i - 1 := by have := HL.out; have := HI.out; unfold wrap64; omega
            have HM : Hid (mvL (cmpO o) (kvC l) i m key = if -1 ≤ i - 1 then i - 1 else -1) := Lib.hid (by unfold mvL; rw [if_neg h0, if_neg h1, if_neg h2, if_pos h3])
            clear h0 h1 h2 h3
            go_wp2
            all_goals (
              go_meet
              case rel =>
                refine FIN.out _ (HM.out.trans ?_)
                split <;> omega)
          · have z3 : (m == 3) = false := by rw [beq_eq_false_iff_ne]; exact h3
            have HM : Hid (mvL (cmpO o) (kvC l) i m key = (findL (cmpO o) key (kvC l) : Int)) := Lib.hid (by unfold mvL; rw [if_neg h0, if_neg h1, if_neg h2, if_neg h3])
            clear h0 h1 h2 h3
            go_wp2_with (go_at_call 35; (with_reducible refine (find_calls o (Kd.C_below HA.out.1 HBL.out) HA.out.2.1 (Kd.C_below HA.out.2.2.1 HBL.out) HA.out.2.2.2.1 HA.out.2.2.2.2.1 HA.out.2.2.2.2.2.1 HL.out).mono ?_); rintro e w2 ⟨rfl, hb2⟩; have g2 := (hb2.block _ (blk_lt HAB.out.1)).trans HAB.out.1; have g3 := (hb2.block _ (blk_lt HAB.out.2)).trans HAB.out.2; have f3 := blk_frozen g2 2; have k3 := (blk_cell g2 2).trans rfl)
            go_meet
            case rel => exact Lib.hid ⟨by rw [HM.out]; exact blk_set g2 2 _, (Below.heap_setCell _ _ _ _ (by simp)).trans g3, below_set (HBL.out.trans (hb2.mono HBL.out.size)) (Nat.le_refl _)⟩
  case rest =>
    have HC := hcut
    generalize hj : mvL (cmpO o) (kvC l) i m key = j at *
    have HJ := Lib.hid hj
    clear hj hcut
    have ha := HC.out.1
    have hb := HC.out.2.1
    have x0 : wc.cell? ⟨w.heap.size, 0, none⟩ = some (.int .i64 o) := (blk_cell ha 0).trans rfl
    have x1 : wc.cell? ⟨w.heap.size, 1, none⟩ = some (.slice A l.length c) := (blk_cell ha 1).trans rfl
    have x2 : wc.cell? ⟨w.heap.size, 2, none⟩ = some (.int .i64 j) := (blk_cell ha 2).trans rfl
    have y0 : wc.cell? ⟨w.heap.size + 1, 0, none⟩ = some (.int .i64 0) := (blk_cell hb 0).trans rfl
    have y1 : wc.cell? ⟨w.heap.size + 1, 1, none⟩ = some (.slice none 0 0) := (blk_cell hb 1).trans rfl
    have y2 : wc.cell? ⟨w.heap.size + 1, 2, none⟩ = some (.int .i64 0) := (blk_cell hb 2).trans rfl
    have g0 : wc.frozen? ⟨w.heap.size + 1, 0, none⟩ = false := blk_frozen hb 0
    have g1 : wc.frozen? ⟨w.heap.size + 1, 1, none⟩ = false := blk_frozen hb 1
    have g2 : wc.frozen? ⟨w.heap.size + 1, 2, none⟩ = false := blk_frozen hb 2
    have hb3 := blk_set (blk_set (blk_set hb 0 (.int .i64 o)) 1 (.slice A l.length c)) 2 (.int .i64 j)
    have q0 : (((wc.setCell ⟨w.heap.size + 1, 0, none⟩ (.int .i64 o)).setCell ⟨w.heap.size + 1, 1, none⟩ (.slice A l.length c)).setCell ⟨w.heap.size + 1, 2, none⟩ (.int .i64 j)).drew.cell? ⟨w.heap.size + 1, 0, none⟩ = some (.int .i64 o) := (blk_cell hb3 0).trans rfl
    have q1 : (((wc.setCell ⟨w.heap.size + 1, 0, none⟩ (.int .i64 o)).setCell ⟨w.heap.size + 1, 1, none⟩ (.slice A l.length c)).setCell ⟨w.heap.size + 1, 2, none⟩ (.int .i64 j)).drew.cell? ⟨w.heap.size + 1, 1, none⟩ = some (.slice A l.length c) := (blk_cell hb3 1).trans rfl
    have q2 : (((wc.setCell ⟨w.heap.size + 1, 0, none⟩ (.int .i64 o)).setCell ⟨w.heap.size + 1, 1, none⟩ (.slice A l.length c)).setCell ⟨w.heap.size + 1, 2, none⟩ (.int .i64 j)).drew.cell? ⟨w.heap.size + 1, 2, none⟩ = some (.int .i64 j) := (blk_cell hb3 2).trans rfl
    have HBF := Lib.hid (below_drew1 (below_set (g := w.heap.size + 1) (j := 2) (below_set (g := w.heap.size + 1) (j := 1) (below_set (g := w.heap.size + 1) (j := 0) HC.out.2.2 (Nat.le_succ _) (v := .int .i64 o)) (Nat.le_succ _) (v := .slice A l.length c)) (Nat.le_succ _) (v := .int .i64 j)))
    clear ha hb k0 k1 k2 f2 hb3 HC
    clear HA HI HAB HBL
    by_cases h0 : 0 ≤ j
    · have z0 : decide (0 ≤ j) = true := decide_eq_true h0
      by_cases h1 : j < (l.length : Int)
      · have z1 : decide (j < (l.length : Int)) = true := decide_eq_true h1
        have HON : Hid (onL (kvC l) j = true) := Lib.hid (by unfold onL; rw [HLN.out, z0, z1]; rfl)
        clear h0 h1
        go_upto_region 11 with (fail)
        go_region
        all_goals (
          rename_i K' hK'
          simp only [Exit.then]
          refine hK' _ _ ?_
          go_wp2
          simp [bodyPost, results, Tryz.results64, go_sem, q0, q1, q2]
          exact ⟨by rw [HJ.out, HON.out]; rfl, HBF.out⟩)
      · have z1 : decide (j < (l.length : Int)) = false := decide_eq_false h1
        have HON : Hid (onL (kvC l) j = false) := Lib.hid (by unfold onL; rw [HLN.out, z0, z1]; rfl)
        clear h0 h1
        go_upto_region 11 with (fail)
        go_region
        all_goals (
          rename_i K' hK'
          simp only [Exit.then]
          refine hK' _ _ ?_
          go_wp2
          simp [bodyPost, results, Tryz.results64, go_sem, q0, q1, q2]
          exact ⟨by rw [HJ.out, HON.out]; rfl, HBF.out⟩)
    · have z0 : decide (0 ≤ j) = false := decide_eq_false h0
      have HON : Hid (onL (kvC l) j = false) := Lib.hid (by unfold onL; rw [z0]; rfl)
      clear h0
      go_upto_region 11 with (fail)
      go_region
      all_goals (
        rename_i K' hK'
        simp only [Exit.then]
        refine hK' _ _ ?_
        go_wp2
        simp [bodyPost, results, Tryz.results64, go_sem, q0, q1, q2]
        exact ⟨by rw [HJ.out, HON.out]; rfl, HBF.out⟩)

end Go.Proofs.YtdkkkikcigjlhaaGreatDoor.Md

namespace Go.Proofs.YtdkkkikcigjlhaaGreatDoor.Md
open Go.RowKit Go.Proofs.YtdkkkikcigjlhaaGreatDoor.Con Go.Proofs.YtdkkkikcigjlhaaGreatDoor.Run Go.Proofs.YtdkkkikcigjlhaaGreatDoorW.PrintWords Go.Proofs.YtdkkkikcigjlhaaGreatDoorW.PrintMore Go.Proofs.YtdkkkikcigjlhaaGreatDoor.Cmp Go.Sort Go.RwLone
set_option linter.unusedVariables false
set_option linter.unusedSimpArgs false

theorem next_idx {i n : Nat} (h : i < n) (hn : n ≤ 12) : wrap64 ((i : Int) + 1) = ((i + 1 : Nat) : Int) := by rw [wz (by omega) (by omega)]; rfl
theorem round_less {i n k : Nat} (h : i < n) (hk : n ≤ i + k) : k - 1 < k := by omega
theorem round_next {i n k : Nat} (h : i < n) (hk : n ≤ i + k) : i + 1 ≤ n ∧ n ≤ i + 1 + (k - 1) := by omega

end Go.Proofs.YtdkkkikcigjlhaaGreatDoor.Md

namespace Go.Proofs.YtdkkkikcigjlhaaGreatDoor.Md
open Go.RowKit Go.Proofs.YtdkkkikcigjlhaaGreatDoor.Con Go.Proofs.YtdkkkikcigjlhaaGreatDoor.Run Go.Proofs.YtdkkkikcigjlhaaGreatDoorW.PrintWords Go.Proofs.YtdkkkikcigjlhaaGreatDoorW.PrintMore Go.Proofs.YtdkkkikcigjlhaaGreatDoor.Cmp Go.Sort Go.RwLone
set_option linter.unusedVariables false
set_option linter.unusedSimpArgs false

/-- the blocks that a table writes -/
def foot (p gr : Nat) (vk vn : Value) (k : Nat) : Prop := k = p ∨ k = gr ∨ some k = vk.ownBlock ∨ some k = vn.ownBlock

theorem Tab.kvNe {W : World} {base p : Nat} {cs : Array Value} {vk vn : Value} {kv nd : List Int} (h : Tab W base p cs vk vn kv nd) : some p ≠ vk.ownBlock := own_ne h.kv h.cell (by decide)
theorem Tab.ndNe {W : World} {base p : Nat} {cs : Array Value} {vk vn : Value} {kv nd : List Int} (h : Tab W base p cs vk vn kv nd) : some p ≠ vn.ownBlock := own_ne h.nd h.cell (by decide)
theorem Tab.room {W : World} {base p : Nat} {cs : Array Value} {vk vn : Value} {kv nd : List Int} (h : Tab W base p cs vk vn kv nd) : base ≤ W.heap.size := Nat.le_trans h.at_ (Nat.le_of_lt (blk_lt h.cell))

/-- the row of bytes has grown; its slice is not yet stored -/
theorem Tab.grewKv {W w1 : World} {base p : Nat} {cs : Array Value} {vk vn v1 : Value} {kv nd l : List Int} (h : Tab W base p cs vk vn kv nd) (ho : w1.ownsRow base 5 1 v1 l.length (nums .u8 l)) (hg : W.grownBy w1 vk.ownBlock) :
    w1.heap[p]? = some (.cells cs 188 (0, 0)) ∧ Tab (w1.setCell ⟨p, 8, none⟩ v1) base p (cs.setIfInBounds 8 v1) v1 vn l nd := by
  have hc := (hg.block p (blk_lt h.cell) h.kvNe).trans h.cell
  have hn : w1.ownsRow base 3 1 vn nd.length (nums .i64 nd) := own_other h.nd hg (own_type_ne h.nd h.kv (by decide))
  exact ⟨hc, blk_set hc 8 v1, own_setCell (p := ⟨p, 8, none⟩) ho (own_ne ho hc (by decide)) v1, own_setCell (p := ⟨p, 8, none⟩) hn (own_ne hn hc (by decide)) v1, h.at_⟩

/-- the row of numbers has grown; its slice is not yet stored -/
theorem Tab.grewNd {W w1 : World} {base p : Nat} {cs : Array Value} {vk vn v1 : Value} {kv nd l : List Int} (h : Tab W base p cs vk vn kv nd) (ho : w1.ownsRow base 3 1 v1 l.length (nums .i64 l)) (hg : W.grownBy w1 vn.ownBlock) :
    w1.heap[p]? = some (.cells cs 188 (0, 0)) ∧ Tab (w1.setCell ⟨p, 9, none⟩ v1) base p (cs.setIfInBounds 9 v1) vk v1 kv l := by
  have hc := (hg.block p (blk_lt h.cell) h.ndNe).trans h.cell
  have hk : w1.ownsRow base 5 1 vk kv.length (nums .u8 kv) := own_other h.kv hg (own_type_ne h.kv h.nd (by decide))
  exact ⟨hc, blk_set hc 9 v1, own_setCell (p := ⟨p, 9, none⟩) hk (own_ne hk hc (by decide)) v1, own_setCell (p := ⟨p, 9, none⟩) ho (own_ne ho hc (by decide)) v1, h.at_⟩

/-- what an append leaves of the blocks that a table writes -/
theorem foot_kv {w W : World} {p gr : Nat} {vk vn vk0 vn0 v1 : Value} (h : ∀ k, foot p gr vk vn k → foot p gr vk0 vn0 k ∨ w.heap.size ≤ k) (hat : v1.ownBlock = vk.ownBlock ∨ ∃ b, v1.ownBlock = some b ∧ W.heap.size ≤ b) (hs : w.heap.size ≤ W.heap.size) :
    ∀ k, foot p gr v1 vn k → foot p gr vk0 vn0 k ∨ w.heap.size ≤ k := by
  intro k hk
  rcases hk with q | q | q | q
  · exact h k (.inl q)
  · exact h k (.inr (.inl q))
  · rcases hat with e | ⟨b, e, hb⟩
    · exact h k (.inr (.inr (.inl (q.trans e))))
    · rw [e] at q
      injection q with q
      exact .inr (by omega)
  · exact h k (.inr (.inr (.inr q)))

theorem foot_nd {w W : World} {p gr : Nat} {vk vn vk0 vn0 v1 : Value} (h : ∀ k, foot p gr vk vn k → foot p gr vk0 vn0 k ∨ w.heap.size ≤ k) (hat : v1.ownBlock = vn.ownBlock ∨ ∃ b, v1.ownBlock = some b ∧ W.heap.size ≤ b) (hs : w.heap.size ≤ W.heap.size) :
    ∀ k, foot p gr vk v1 k → foot p gr vk0 vn0 k ∨ w.heap.size ≤ k := by
  intro k hk
  rcases hk with q | q | q | q
  · exact h k (.inl q)
  · exact h k (.inr (.inl q))
  · exact h k (.inr (.inr (.inl q)))
  · rcases hat with e | ⟨b, e, hb⟩
    · exact h k (.inr (.inr (.inr (q.trans e))))
    · rw [e] at q
      injection q with q
      exact .inr (by omega)

/-- what a Put leaves: the table, of nodes ns' -/
def PutLeft (w : World) (base p gr : Nat) (vk vn V : Value) (r : Nat) (kv nd key val : List Int) (n sz : Int) (ns : List Node) (w' : World) : Prop :=
  Fr w w' (foot p gr vk vn) ∧ ∃ cs' q' Kx' ck' N' c' kv' nd' mh', Tab w' base p cs' (.slice Kx' kv'.length ck') (.slice N' nd'.length c') kv' nd' ∧ Cs cs' V r 0 0 (.slice Kx' kv'.length ck') (.slice N' nd'.length c') q' ((mh' : Nat) : Int) n sz ∧ Skip nd' kv' mh' ns ∧ Rnd w' r gr ∧
    kv'.length ≤ kv.length + key.length + val.length ∧ nd'.length ≤ nd.length + 16 ∧ kv'.length ≤ ck' ∧ ∀ k, foot p gr (.slice Kx' kv'.length ck') (.slice N' nd'.length c') k → foot p gr vk vn k ∨ w.heap.size ≤ k

theorem Rnd.kept {W W1 : World} {r gr : Nat} {row : Option Nat} (h : Rnd W r gr) (hg : W.grownBy W1 row) (h1 : some r ≠ row) (h2 : some gr ≠ row) : Rnd W1 r gr := by
  obtain ⟨a, ⟨hi, lo, b⟩, c⟩ := h
  exact ⟨(hg.block r (blk_lt a) h1).trans a, ⟨hi, lo, (hg.block gr (blk_lt b) h2).trans b⟩, c⟩
theorem Rnd.set {W : World} {r gr : Nat} (h : Rnd W r gr) {q i : Nat} (h1 : r ≠ q) (h2 : gr ≠ q) (v : Value) : Rnd (W.setCell ⟨q, i, none⟩ v) r gr :=
  h.kept (grown_set W q i v) (fun e => h1 (by injection e)) (fun e => h2 (by injection e))

/-- the generator's blocks are none of the table's -/
structure Away (p r gr : Nat) (vk vn : Value) : Prop where
  rp : r ≠ p
  gp : gr ≠ p
  rk : some r ≠ vk.ownBlock
  gk : some gr ≠ vk.ownBlock
  rn : some r ≠ vn.ownBlock
  gn : some gr ≠ vn.ownBlock

theorem blk_type {W : World} {a b : Nat} {cs ds : Array Value} {t u : TypeId} (h : W.heap[a]? = some (.cells cs t (0, 0))) (g : W.heap[b]? = some (.cells ds u (0, 0))) (hne : t ≠ u) : a ≠ b := by
  intro e
  subst e
  rw [h] at g
  injection g with g
  injection g with _ g _
  exact hne g

theorem Tab.away {W : World} {base p r gr : Nat} {cs : Array Value} {vk vn : Value} {kv nd : List Int} (h : Tab W base p cs vk vn kv nd) (hr : Rnd W r gr) : Away p r gr vk vn := by
  obtain ⟨a, ⟨hi, lo, b⟩, c⟩ := hr
  exact ⟨blk_type a h.cell (by decide), blk_type b h.cell (by decide), own_ne h.kv a (by decide), own_ne h.kv b (by decide), own_ne h.nd a (by decide), own_ne h.nd b (by decide)⟩

/-- a table in the midst of a Put that began at w -/
structure PutSt (w : World) (base p gr : Nat) (vk0 vn0 V : Value) (r : Nat) (mh n sz : Int) (q : Nat → Int) (W : World) (cs : Array Value) (vk vn : Value) (kv nd : List Int) : Prop where
  T : Tab W base p cs vk vn kv nd
  C : Cs cs V r 1 (-1073741824) vk vn q mh n sz
  R : Rnd W r gr
  F : Fr w W (foot p gr vk0 vn0)
  Q : ∀ k, foot p gr vk vn k → foot p gr vk0 vn0 k ∨ w.heap.size ≤ k

section
variable {w W w1 : World} {base p gr r : Nat} {vk0 vn0 V vk vn v1 : Value} {mh n sz : Int} {q : Nat → Int} {cs : Array Value} {kv nd l : List Int}

theorem PutSt.cellP (h : PutSt w base p gr vk0 vn0 V r mh n sz q W cs vk vn kv nd) (i : Nat) {u : Value} (hu : cs[i]? = some u) : W.cell? ⟨p, i, none⟩ = some u ∧ W.frozen? ⟨p, i, none⟩ = false := ⟨(blk_cell h.T.cell i).trans hu, blk_frozen h.T.cell i⟩

theorem PutSt.below (h : PutSt w base p gr vk0 vn0 V r mh n sz q W cs vk vn kv nd) (hb : Below W.heap.size W w1) : PutSt w base p gr vk0 vn0 V r mh n sz q w1 cs vk vn kv nd :=
  ⟨h.T.below hb, h.C, h.R.kept (row := none) (grown_of_below hb none) (by simp) (by simp), h.F.then_ (Fr.of_below hb (fun _ => False)) (fun k hk => hk.elim), h.Q⟩

/-- a cell of the table's own block is written -/
theorem PutSt.own (h : PutSt w base p gr vk0 vn0 V r mh n sz q W cs vk vn kv nd) (i : Nat) (u : Value) : Tab (W.setCell ⟨p, i, none⟩ u) base p (cs.setIfInBounds i u) vk vn kv nd ∧ Rnd (W.setCell ⟨p, i, none⟩ u) r gr ∧ Fr w (W.setCell ⟨p, i, none⟩ u) (foot p gr vk0 vn0) :=
  have ha := h.T.away h.R
  ⟨h.T.set i u, h.R.set ha.rp ha.gp u, h.F.setCell (p := ⟨p, i, none⟩) (.inl (.inl rfl)) u⟩

theorem PutSt.s22 (h : PutSt w base p gr vk0 vn0 V r mh n sz q W cs vk vn kv nd) (v : Int) : PutSt w base p gr vk0 vn0 V r v n sz q (W.setCell ⟨p, 22, none⟩ (.int .i64 v)) (cs.setIfInBounds 22 (.int .i64 v)) vk vn kv nd :=
  have ho := h.own 22 (.int .i64 v)
  ⟨ho.1, h.C.set22 v, ho.2.1, ho.2.2, h.Q⟩
theorem PutSt.s23 (h : PutSt w base p gr vk0 vn0 V r mh n sz q W cs vk vn kv nd) (v : Int) : PutSt w base p gr vk0 vn0 V r mh v sz q (W.setCell ⟨p, 23, none⟩ (.int .i64 v)) (cs.setIfInBounds 23 (.int .i64 v)) vk vn kv nd :=
  have ho := h.own 23 (.int .i64 v)
  ⟨ho.1, h.C.set23 v, ho.2.1, ho.2.2, h.Q⟩
theorem PutSt.s24 (h : PutSt w base p gr vk0 vn0 V r mh n sz q W cs vk vn kv nd) (v : Int) : PutSt w base p gr vk0 vn0 V r mh n v q (W.setCell ⟨p, 24, none⟩ (.int .i64 v)) (cs.setIfInBounds 24 (.int .i64 v)) vk vn kv nd :=
  have ho := h.own 24 (.int .i64 v)
  ⟨ho.1, h.C.set24 v, ho.2.1, ho.2.2, h.Q⟩
theorem PutSt.sq (h : PutSt w base p gr vk0 vn0 V r mh n sz q W cs vk vn kv nd) {i : Nat} (hi : i < 12) (v : Int) : PutSt w base p gr vk0 vn0 V r mh n sz (fun j => if j = i then v else q j) (W.setCell ⟨p, 10 + i, none⟩ (.int .i64 v)) (cs.setIfInBounds (10 + i) (.int .i64 v)) vk vn kv nd :=
  have ho := h.own (10 + i) (.int .i64 v)
  ⟨ho.1, h.C.setq hi v, ho.2.1, ho.2.2, h.Q⟩

/-- the row of bytes has grown, and is stored -/
theorem PutSt.kvs (h : PutSt w base p gr vk0 vn0 V r mh n sz q W cs vk vn kv nd) (ho : w1.ownsRow base 5 1 v1 l.length (nums .u8 l)) (hg : W.grownBy w1 vk.ownBlock) (hat : v1.ownBlock = vk.ownBlock ∨ ∃ b, v1.ownBlock = some b ∧ W.heap.size ≤ b) :
    PutSt w base p gr vk0 vn0 V r mh n sz q (w1.setCell ⟨p, 8, none⟩ v1) (cs.setIfInBounds 8 v1) v1 vn l nd :=
  have ha := h.T.away h.R
  ⟨(h.T.grewKv ho hg).2, h.C.set8 v1, (h.R.kept hg ha.rk ha.gk).set ha.rp ha.gp v1,
    (h.F.then_ (Fr.of_grown (S := fun k => some k = vk.ownBlock) hg (fun k hk => hk.symm)) (fun k hk => h.Q k (.inr (.inr (.inl hk))))).setCell (p := ⟨p, 8, none⟩) (.inl (.inl rfl)) v1, foot_kv h.Q hat h.F.size⟩

/-- the row of numbers has grown, and is stored -/
theorem PutSt.nds (h : PutSt w base p gr vk0 vn0 V r mh n sz q W cs vk vn kv nd) (ho : w1.ownsRow base 3 1 v1 l.length (nums .i64 l)) (hg : W.grownBy w1 vn.ownBlock) (hat : v1.ownBlock = vn.ownBlock ∨ ∃ b, v1.ownBlock = some b ∧ W.heap.size ≤ b) :
    PutSt w base p gr vk0 vn0 V r mh n sz q (w1.setCell ⟨p, 9, none⟩ v1) (cs.setIfInBounds 9 v1) vk v1 kv l :=
  have ha := h.T.away h.R
  ⟨(h.T.grewNd ho hg).2, h.C.set9 v1, (h.R.kept hg ha.rn ha.gn).set ha.rp ha.gp v1,
    (h.F.then_ (Fr.of_grown (S := fun k => some k = vn.ownBlock) hg (fun k hk => hk.symm)) (fun k hk => h.Q k (.inr (.inr (.inr hk))))).setCell (p := ⟨p, 9, none⟩) (.inl (.inl rfl)) v1, foot_nd h.Q hat h.F.size⟩

/-- a number of the row is written -/
theorem PutSt.num {g c : Nat} (h : PutSt w base p gr vk0 vn0 V r mh n sz q W cs vk (.slice (some ⟨g, 0, none⟩) nd.length c) kv nd) (i : Nat) (v : Int) :
    PutSt w base p gr vk0 vn0 V r mh n sz q (W.setCell ⟨g, i, none⟩ (.int .i64 v)) cs vk (.slice (some ⟨g, 0, none⟩) nd.length c) kv (nd.set i v) :=
  have ha := h.T.away h.R
  ⟨h.T.setNd i v, h.C, h.R.set (fun e => ha.rn (by rw [e]; rfl)) (fun e => ha.gn (by rw [e]; rfl)) _, h.F.setCell (p := ⟨g, i, none⟩) (h.Q g (.inr (.inr (.inr rfl)))) _, h.Q⟩

theorem PutSt.num' {g c m : Nat} (hm : m = nd.length) (h : PutSt w base p gr vk0 vn0 V r mh n sz q W cs vk (.slice (some ⟨g, 0, none⟩) m c) kv nd) (i : Nat) (v : Int) :
    PutSt w base p gr vk0 vn0 V r mh n sz q (W.setCell ⟨g, i, none⟩ (.int .i64 v)) cs vk (.slice (some ⟨g, 0, none⟩) m c) kv (nd.set i v) := by
  subst hm
  exact h.num i v

theorem PutSt.read {g c m : Nat} (hm : m = nd.length) (h : PutSt w base p gr vk0 vn0 V r mh n sz q W cs vk (.slice (some ⟨g, 0, none⟩) m c) kv nd) {i : Nat} (hi : i < m) :
    W.cell? ⟨g, i, none⟩ = some (.int .i64 (G nd i)) ∧ W.frozen? ⟨g, i, none⟩ = false := by
  subst hm
  exact h.T.numG hi

/-- the lock is left -/
theorem PutSt.left {kv0 nd0 key val : List Int} {Kx N : Option Addr} {ck c mhn : Nat} {ns : List Node} (h : PutSt w base p gr vk0 vn0 V r (mhn : Int) n sz q W cs (.slice Kx kv.length ck) (.slice N nd.length c) kv nd) (hS : Skip nd kv mhn ns) (h1 : kv.length ≤ kv0.length + key.length + val.length) (h2 : nd.length ≤ nd0.length + 16) (h3 : kv.length ≤ ck) :
    PutLeft w base p gr vk0 vn0 V r kv0 nd0 key val n sz ns ((W.setCell ⟨p, 6, none⟩ (.int .i32 0)).setCell ⟨p, 2, none⟩ (.int .i32 0)) :=
  have ha := h.T.away h.R
  ⟨(h.F.setCell (p := ⟨p, 6, none⟩) (.inl (.inl rfl)) _).setCell (p := ⟨p, 2, none⟩) (.inl (.inl rfl)) _, _, _, Kx, ck, N, c, kv, nd, mhn, (h.T.set 6 _).set 2 _, (h.C.set6 0).set2 0, hS, (h.R.set ha.rp ha.gp _).set ha.rp ha.gp _, h1, h2, h3, h.Q⟩

theorem PutSt.left' {kv0 nd0 key val : List Int} {Kx N : Option Addr} {ck c mhn m : Nat} {ns : List Node} (hm : m = nd.length) (h : PutSt w base p gr vk0 vn0 V r (mhn : Int) n sz q W cs (.slice Kx kv.length ck) (.slice N m c) kv nd) (hS : Skip nd kv mhn ns) (h1 : kv.length ≤ kv0.length + key.length + val.length) (h2 : nd.length ≤ nd0.length + 16) (h3 : kv.length ≤ ck) :
    PutLeft w base p gr vk0 vn0 V r kv0 nd0 key val n sz ns ((W.setCell ⟨p, 6, none⟩ (.int .i32 0)).setCell ⟨p, 2, none⟩ (.int .i32 0)) := by
  subst hm
  exact h.left hS h1 h2 h3
end

theorem own_cap {w : World} {base n m c : Nat} {e : TypeId} {A : Option Addr} {xs : List Value} (h : w.ownsRow base e 1 (.slice A n c) m xs) : n ≤ c := by
  rcases h.2 with ⟨hv, h0⟩ | ⟨g, cap, cur, hv, hb, hh, h1, _⟩
  · injection hv with _ e2 e3
    omega
  · injection hv with _ e2 e3
    omega

end Go.Proofs.YtdkkkikcigjlhaaGreatDoor.Md
