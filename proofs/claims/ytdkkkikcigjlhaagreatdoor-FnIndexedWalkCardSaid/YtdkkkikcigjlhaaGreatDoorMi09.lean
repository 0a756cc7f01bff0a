/- The laws' own bounds: fewPairs. The laws' own bounds: fewPairs, walked. The reference's cursor: a put. The reference's cursor: a move. The memory table: Delete. -/
import Derived.Test.YtdkkkikcigjlhaaGreatDoorMi06
import Derived.Test.YtdkkkikcigjlhaaGreatDoorMi08
import Derived.Test.YtdkkkikcigjlhaaGreatDoorMi05
import Derived.BigRegion
set_option linter.unusedVariables false
set_option linter.unusedSimpArgs false
namespace Go.Proofs.YtdkkkikcigjlhaaGreatDoor.Md
open Go.RowKit Go.Proofs.YtdkkkikcigjlhaaGreatDoor.Con Go.Proofs.YtdkkkikcigjlhaaGreatDoor.Run Go.Proofs.YtdkkkikcigjlhaaGreatDoorW.PrintWords Go.Proofs.YtdkkkikcigjlhaaGreatDoorW.PrintMore Go.Proofs.YtdkkkikcigjlhaaGreatDoor.Cmp Go.Sort Go.RwLone Go.Proofs.YtdkkkikcigjlhaaGreatDoor.PFnMemMap

def sumK (l : List S44) : Nat := (l.map fun x => x.f0.length + x.f1.length).sum
def sumM (l : List S104) : Nat := (l.map fun x => x.f1.length).sum
def sumL (l : List (List S44)) : Nat := (l.map sumK).sum
def cntL (l : List (List S44)) : Nat := (l.map List.length).sum

theorem sumK_snoc (l : List S44) (x : S44) : sumK (l ++ [x]) = sumK l + (x.f0.length + x.f1.length) := by simp [sumK]
theorem sumM_snoc (l : List S104) (x : S104) : sumM (l ++ [x]) = sumM l + x.f1.length := by simp [sumM]
theorem sumL_snoc (l : List (List S44)) (x : List S44) : sumL (l ++ [x]) = sumL l + sumK x := by simp [sumL]
theorem cntL_snoc (l : List (List S44)) (x : List S44) : cntL (l ++ [x]) = cntL l + x.length := by simp [cntL]
theorem cnt_le {l : List (List S44)} (h : ∀ x ∈ l, x.length ≤ 2147483647) : cntL l ≤ l.length * 2147483647 := by
  induction l with
  | nil => simp [cntL]
  | cons x l ih =>
    have h1 := h x (by simp)
    have h2 := ih (fun r hr => h r (by simp [hr]))
    simp only [cntL, List.map_cons, List.sum_cons, List.length_cons] at h2 ⊢
    omega

theorem sp_take {α : Type} {l : List α} {i : Nat} (h : i < l.length) (z : α) : l.take (i + 1) = l.take i ++ [l.getD i z] := by
  rw [List.take_add_one, List.getElem?_eq_getElem h]
  simp [List.getD_eq_getElem?_getD, List.getElem?_eq_getElem h]

theorem add_two (T kn vn : Nat) (K V : Option Addr) (kc vc : Nat) : addW (wrap64 (T : Int)) [(K, kn, kc), (V, vn, vc)] = wrap64 ((T + (kn + vn) : Nat) : Int) := by
  simp only [addW]
  unfold wrap64
  omega
theorem add_one (T kn : Nat) (K : Option Addr) (kc : Nat) : addW (wrap64 (T : Int)) [(K, kn, kc)] = wrap64 ((T + kn : Nat) : Int) := by
  simp only [addW]
  unfold wrap64
  omega

def BndAt (W : World) (g T N : Nat) : Prop := W.heap[g]? = some (.cells #[.int .i64 (wrap64 (T : Int)), .int .i64 (N : Int)] 86 (0, 0))

abbrev kLL : Kd (List S44) := Kd.slice 44 k44

theorem LL_at {w : World} {ok : Nat → Prop} {A : Option Addr} {n : Nat} {LL : List (List S44)} (h : Kd.F kLL w ok A n LL) {i : Nat} (hi : i < n) {l : List S44} (hl : LL.getD i [] = l) :
    ∃ ad A1 c1, A = some ad ∧ w.cell? (ad.add i) = some (.slice A1 l.length c1) ∧ l.length ≤ c1 ∧ Kd.F k44 w ok A1 l.length l := by
  obtain ⟨ad, cs', rfl, hcl, hK, hcell, hokb⟩ := Kd.F_get h ([] : List S44) (i : Int) (Int.natCast_nonneg _) (by omega)
  obtain ⟨A1, c1, rfl, hl1, hF1⟩ := Kd.FK_slice_open hK
  have r0 := hcell 0 _ rfl
  rw [Int.toNat_natCast, hl] at r0 hF1 hl1
  have e : i * kLL.sz + 0 = i := by show i * 1 + 0 = i; omega
  rw [e] at r0
  exact ⟨ad, A1, c1, rfl, r0, hl1, hF1⟩

theorem kv_at {w : World} {ok : Nat → Prop} {A : Option Addr} {n : Nat} {l : List S44} (h : Kd.F k44 w ok A n l) {j : Nat} (hj : j < n) {x : S44} (hx : l.getD j (⟨[], []⟩ : S44) = x) :
    ∃ ad A1 c1 A2 c2, A = some ad ∧ w.cell? (ad.add (j * 2)) = some (.slice A1 x.f0.length c1) ∧ w.cell? ⟨(ad.add (j * 2)).block, (ad.add (j * 2)).off + 1, none⟩ = some (.slice A2 x.f1.length c2) ∧ Kd.F (Kd.int .u8) w ok A1 x.f0.length x.f0 ∧ Kd.F (Kd.int .u8) w ok A2 x.f1.length x.f1 ∧ x.f0.length ≤ c1 ∧ x.f1.length ≤ c2 := by
  obtain ⟨ad, cs', rfl, hcl, hK, hcell, hokb⟩ := Kd.F_get h (⟨[], []⟩ : S44) (j : Int) (Int.natCast_nonneg _) (by omega)
  obtain ⟨A1, c1, A2, c2, rfl, hl1, hF1, hl2, hF2⟩ := k44_openF hK
  have r0 := hcell 0 _ rfl
  have r1 := hcell 1 _ rfl
  rw [Int.toNat_natCast, hx] at r0 r1 hF1 hF2 hl1 hl2
  have e3 : j * k44.sz + 1 = j * 2 + 1 := rfl
  rw [e3, add_field ad (j * 2) 1 (by omega)] at r1
  exact ⟨ad, A1, c1, A2, c2, rfl, r0, r1, hF1, hF2, hl1, hl2⟩

theorem mv_at {w : World} {ok : Nat → Prop} {A : Option Addr} {n : Nat} {l : List S104} (h : Kd.F k104 w ok A n l) {j : Nat} (hj : j < n) {x : S104} (hx : l.getD j (⟨0, []⟩ : S104) = x) :
    ∃ ad A1 c1, A = some ad ∧ w.cell? (ad.add (j * 2)) = some (.int .i64 x.f0) ∧ w.cell? ⟨(ad.add (j * 2)).block, (ad.add (j * 2)).off + 1, none⟩ = some (.slice A1 x.f1.length c1) ∧ Kd.F (Kd.int .u8) w ok A1 x.f1.length x.f1 ∧ x.f1.length ≤ c1 := by
  obtain ⟨ad, cs', rfl, hcl, hK, hcell, hokb⟩ := Kd.F_get h (⟨0, []⟩ : S104) (j : Int) (Int.natCast_nonneg _) (by omega)
  obtain ⟨A1, c1, rfl, hl1, hF1⟩ := k104_openF hK
  have r0 := hcell 0 _ rfl
  have r1 := hcell 1 _ rfl
  rw [Int.toNat_natCast, hx] at r0 r1 hF1 hl1
  have e3 : j * k104.sz + 1 = j * 2 + 1 := rfl
  rw [e3, add_field ad (j * 2) 1 (by omega)] at r1
  exact ⟨ad, A1, c1, rfl, r0, r1, hF1, hl1⟩

def few (LL : List (List S44)) (ms : List S104) : Bool := decide (wrap64 ((sumL LL + sumM ms : Nat) : Int) ≤ 1048576 ∧ ((LL.length + cntL LL + ms.length : Nat) : Int) ≤ 4096)

theorem BndAt.two {W : World} {g T N : Nat} (h : BndAt W g T N) (hN : N ≤ 9223372036854775806) {K V : Option Addr} {kn kc vn vc : Nat} :
    Calls Tryz.prog 44 #[.pointer (some ⟨g, 0, none⟩), .slice (some ⟨W.heap.size, 0, none⟩) 2 2] (W.alloc (.cells #[.slice K kn kc, .slice V vn vc] 25)) fun e w' => e = .returned (.tuple #[]) ∧ Hid (BndAt w' g (T + (kn + vn)) (N + 1)) ∧ Hid (Fr W w' (fun k => k = g)) := by
  have hba := below_alloc (Below.refl W.heap.size W) (.cells #[.slice K kn kc, .slice V vn vc] 25)
  refine (add_calls (ls := [(K, kn, kc), (V, vn, vc)]) (m := 2) ((hba.block g (blk_lt h)).trans h) (blk_new W (.cells #[.slice K kn kc, .slice V vn vc] 25)) rfl (by omega) hN).mono ?_
  rintro e w' ⟨rfl, hk, hg⟩
  rw [add_two] at hk
  exact ⟨rfl, Lib.hid hk, Lib.hid ((Fr.of_below hba (fun k => k = g)).then_ (Fr.of_grown (S := fun k => k = g) hg (fun k e => by injection e with e; exact e.symm)) (fun k hk => .inl hk))⟩

theorem BndAt.one {W : World} {g T N : Nat} (h : BndAt W g T N) (hN : N ≤ 9223372036854775806) {K : Option Addr} {kn kc : Nat} :
    Calls Tryz.prog 44 #[.pointer (some ⟨g, 0, none⟩), .slice (some ⟨W.heap.size, 0, none⟩) 1 1] (W.alloc (.cells #[.slice K kn kc] 25)) fun e w' => e = .returned (.tuple #[]) ∧ Hid (BndAt w' g (T + kn) (N + 1)) ∧ Hid (Fr W w' (fun k => k = g)) := by
  have hba := below_alloc (Below.refl W.heap.size W) (.cells #[.slice K kn kc] 25)
  refine (add_calls (ls := [(K, kn, kc)]) (m := 1) ((hba.block g (blk_lt h)).trans h) (blk_new W (.cells #[.slice K kn kc] 25)) rfl (by omega) hN).mono ?_
  rintro e w' ⟨rfl, hk, hg⟩
  rw [add_one] at hk
  exact ⟨rfl, Lib.hid hk, Lib.hid ((Fr.of_below hba (fun k => k = g)).then_ (Fr.of_grown (S := fun k => k = g) hg (fun k e => by injection e with e; exact e.symm)) (fun k hk => .inl hk))⟩

theorem few_step {n i : Nat} (h : i < n) (hn : n ≤ 2147483647) : decide ((i : Int) < (n : Int)) = true ∧ wrap64 ((i : Int) + 1) = (i : Int) + 1 ∧ (i : Int) < (n : Int) := ⟨decide_eq_true (by omega), by unfold wrap64; omega, by omega⟩

theorem sp_below_fr {B : Nat} {a b c : World} {S : Nat → Prop} (h : Below B a b) (hB : B ≤ b.heap.size) (g : Fr b c S) (hS : ∀ k, S k → B ≤ k) : Below B a c :=
  ⟨g.os.trans h.os, g.tape.trans h.tape, g.output.trans h.output, Nat.le_trans h.size g.size, fun k hk => (g.block k (Nat.lt_of_lt_of_le hk hB) (fun q => by have := hS k q; omega)).trans (h.block k hk)⟩

set_option maxHeartbeats 6400000 in
set_option maxRecDepth 100000 in
theorem fewPairs_calls {w : World} {ok okm : Nat → Prop} {A Am : Option Addr} {n c mn cm : Nat} {LL : List (List S44)} {ms : List S104} (hn : LL.length = n) (hL : Kd.F kLL w ok A n LL) (hok : ∀ k, ok k → k < w.heap.size) (hmn : ms.length = mn) (hM : Kd.F k104 w okm Am mn ms) (hokm : ∀ k, okm k → k < w.heap.size)
    (b1 : n ≤ 2147483647) (b2 : ∀ l ∈ LL, l.length ≤ 2147483647) (b3 : mn ≤ 2147483647) :
    Calls Tryz.prog 23 #[.slice A n c, .slice Am mn cm] w fun e w' => e = .returned (.bool (few LL ms)) ∧ Below w.heap.size w w' := by
  have HL := Lib.hid (And.intro hL (And.intro hn b1))
  have HM := Lib.hid (And.intro hM (And.intro hmn b3))
  have HO := Lib.hid (And.intro hok hokm)
  have H2 := Lib.hid b2
  have hcl : cntL LL ≤ 2147483647 * 2147483647 := Nat.le_trans (cnt_le b2) (Nat.mul_le_mul_right _ (by omega))
  have HCL := Lib.hid hcl
  have hb0 := below_alloc (Below.refl w.heap.size w) (.cells #[.int .i64 0, .int .i64 (n : Int)] 86)
  have hk0 := blk_new w (.cells #[.int .i64 0, .int .i64 (n : Int)] 86)
  have HBD : Hid (BndAt (w.alloc (.cells #[.int .i64 0, .int .i64 (n : Int)] 86)) w.heap.size 0 n) := Lib.hid (by
    unfold BndAt
    rw [show wrap64 ((0 : Nat) : Int) = 0 by unfold wrap64; omega]
    exact hk0)
  have HBB := Lib.hid hb0
  clear hL hn hM hmn hok hokm b1 b2 b3 hcl hb0 hk0
  go_enter Tryz.func23, Tryz.ntmps23
  go_wp2
  generalize w.alloc (.cells #[.int .i64 0, .int .i64 (n : Int)] 86) = w1 at *
  go_loopg [6] n (fun k v6 w' => ∃ i : Nat, v6 = .int .i64 (i : Int) ∧ Hid (i ≤ n ∧ n ≤ i + k) ∧ Hid (BndAt w' w.heap.size (sumL (LL.take i)) (n + cntL (LL.take i))) ∧ Hid (Below w.heap.size w w'))
  case atStart => exact ⟨0, rfl, Lib.hid ⟨by omega, by omega⟩, HBD, HBB⟩
  case round =>
    obtain ⟨i, rfl, HI, HK, HB⟩ := hrel
    by_cases hi : i < n
    · obtain ⟨z0, w0, z1⟩ := few_step hi HL.out.2.2
      have HII := Lib.hid hi
      obtain ⟨l, hl⟩ : ∃ l, LL.getD i [] = l := ⟨_, rfl⟩
      have hmem : l ∈ LL := by
        rw [← hl, List.getD_eq_getElem?_getD, List.getElem?_eq_getElem (by rw [HL.out.2.1]; exact hi)]
        exact List.getElem_mem _
      have hlm := H2.out l hmem
      have htk := sp_take (l := LL) (i := i) (by rw [HL.out.2.1]; exact hi) []
      rw [hl] at htk
      have hcnt : cntL (LL.take i) + l.length ≤ cntL LL := by
        rw [← cntL_snoc, ← htk]
        have e := congrArg cntL (List.take_append_drop (i + 1) LL)
        unfold cntL at e ⊢
        rw [List.map_append, List.sum_append] at e
        omega
      have HC := Lib.hid (And.intro hlm (And.intro htk (Nat.le_trans hcnt HCL.out)))
      have HLI := Lib.hid hl
      clear hmem hlm htk hcnt hl
      obtain ⟨gk0, rfl⟩ : ∃ g, g = gk := ⟨gk, rfl⟩
      go_wp2
      generalize hml : l.length = m at *
      have HML := Lib.hid hml
      clear hml
      go_loopg [7] m (fun k v7 w' => ∃ j : Nat, v7 = .int .i64 (j : Int) ∧ Hid (j ≤ m ∧ m ≤ j + k) ∧ Hid (BndAt w' w.heap.size (sumL (LL.take i) + sumK (l.take j)) (n + cntL (LL.take i) + j)) ∧ Hid (Below w.heap.size w w'))
      case atStart => exact ⟨0, rfl, Lib.hid ⟨by omega, by omega⟩, HK, HB⟩
      case round =>
        obtain ⟨j, rfl, HJ, HKJ, HBJ⟩ := hrel
        obtain ⟨ad, A1, c1, hA, r0, hc1, hF1⟩ := LL_at (Kd.F_below HL.out.1 HBJ.out) hi HLI.out
        subst hA
        rw [HML.out] at r0
        by_cases hj : j < m
        · obtain ⟨y0, x0, y1⟩ := few_step hj HC.out.1
          obtain ⟨x, hx⟩ : ∃ x, l.getD j (⟨[], []⟩ : S44) = x := ⟨_, rfl⟩
          obtain ⟨ad2, K, kc, V, vc, hA2, s0, s1, -, -, -, -⟩ := kv_at (n := m) (by rw [← HML.out]; exact hF1) hj hx
          subst hA2
          have htk2 := sp_take (l := l) (i := j) (by rw [HML.out]; exact hj) (⟨[], []⟩ : S44)
          rw [hx] at htk2
          have hsn : sumK (l.take (j + 1)) = sumK (l.take j) + (x.f0.length + x.f1.length) := by rw [htk2, sumK_snoc]
          have HSN := Lib.hid hsn
          have HJJ := Lib.hid hj
          clear hx htk2 hsn hc1 hF1
          generalize x.f0.length = kn at *
          generalize x.f1.length = vn at *
          go_upto_region 9 with (fail)
          refine still_tail 16 (by kernel_rfl) (by kernel_rfl) ?_
          intro W3 hW3
          have r0 := drew_cell hW3 r0
          have s0 := drew_cell hW3 s0
          have s1 := drew_cell hW3 s1
          have k3 : Hid (BndAt W3 w.heap.size (sumL (LL.take i) + sumK (l.take j)) (n + cntL (LL.take i) + j)) := by rw [hW3]; exact Lib.hid HKJ.out
          have g3 : Hid (Below w.heap.size w W3) := by rw [hW3]; exact Lib.hid HBJ.out.drew
          clear hW3
          simp only [List.take_succ_cons, List.take_zero, List.drop_succ_cons, List.drop_zero]
          repeat still_step
          refine wpStill_nil ?_
          have hA := Lib.hid (k3.out.two (K := K) (V := V) (kn := kn) (vn := vn) (kc := kc) (vc := vc) (by have := HC.out.2.2; have := HL.out.2.2; have := HJJ.out; have := HC.out.1; omega))
          go_wp2_with (go_at_call 44; (with_reducible refine hA.out.mono ?_); rintro e w4 ⟨rfl, hk4, hf4⟩)
          go_roundg (gk - 1)
          case measure => have := HJ.out; have := HJJ.out; omega
          case rel =>
            refine ⟨j + 1, (by first | rfl | exact congrArg _ x0), Lib.hid (by have := HJ.out; have := HJJ.out; omega), Lib.hid ?_, Lib.hid (sp_below_fr g3.out g3.out.size hf4.out (fun k hk => by rw [hk]; exact Nat.le_refl _))⟩
            rw [HSN.out, ← Nat.add_assoc, ← Nat.add_assoc]
            have := hk4.out
            rw [← Nat.add_assoc] at this
            exact this
        · have y0 : decide ((j : Int) < (m : Int)) = false := decide_eq_false (by omega)
          have hjm : j = m := by have := HJ.out; omega
          have HJM := Lib.hid hjm
          clear hjm
          have e1 : l.take j = l := by rw [HJM.out, ← HML.out, List.take_length]
          have hk : BndAt wr w.heap.size (sumL (LL.take (i + 1))) (n + cntL (LL.take (i + 1))) := by
            have hk := HKJ.out
            rw [e1] at hk
            rw [HC.out.2.1, sumL_snoc, cntL_snoc, HML.out, ← HJM.out, ← Nat.add_assoc]
            exact hk
          have HK2 := Lib.hid hk
          clear hk e1
          go_wp2
          go_roundg (gk0 - 1)
          case measure => have := HI.out; have := HII.out; omega
          case rel => exact ⟨i + 1, (by first | rfl | exact congrArg _ w0), Lib.hid (by have := HI.out; have := HII.out; omega), HK2, HBJ⟩
    · have z0 : decide ((i : Int) < (n : Int)) = false := decide_eq_false (by omega)
      have hin : i = n := by have := HI.out; omega
      have e : LL.take i = LL := by rw [hin, ← HL.out.2.1, List.take_length]
      rw [e] at HK
      clear hin e
      go_wp2
      go_loopg [8] mn (fun k v8 w' => ∃ j : Nat, v8 = .int .i64 (j : Int) ∧ Hid (j ≤ mn ∧ mn ≤ j + k) ∧ Hid (BndAt w' w.heap.size (sumL LL + sumM (ms.take j)) (n + cntL LL + j)) ∧ Hid (Below w.heap.size w w'))
      case atStart => exact ⟨0, rfl, Lib.hid ⟨by omega, by omega⟩, HK, HB⟩
      case round =>
        obtain ⟨j, rfl, HJ, HKJ, HBJ⟩ := hrel
        by_cases hj : j < mn
        · obtain ⟨y0, x0, y1⟩ := few_step hj HM.out.2.2
          obtain ⟨x, hx⟩ : ∃ x, ms.getD j (⟨0, []⟩ : S104) = x := ⟨_, rfl⟩
          obtain ⟨ad2, K, kc, hA2, s0, s1, -, -⟩ := mv_at (Kd.F_below HM.out.1 HBJ.out) hj hx
          subst hA2
          have htk2 := sp_take (l := ms) (i := j) (by rw [HM.out.2.1]; exact hj) (⟨0, []⟩ : S104)
          rw [hx] at htk2
          have hsn : sumM (ms.take (j + 1)) = sumM (ms.take j) + x.f1.length := by rw [htk2, sumM_snoc]
          have HSN := Lib.hid hsn
          have HJJ := Lib.hid hj
          clear hx htk2 hsn s0
          generalize x.f1.length = kn at *
          have hA := Lib.hid (HKJ.out.one (K := K) (kn := kn) (kc := kc) (by have := HCL.out; have := HL.out.2.2; have := HJJ.out; have := HM.out.2.2; omega))
          go_wp2_with (go_at_call 44; (with_reducible refine hA.out.mono ?_); rintro e w4 ⟨rfl, hk4, hf4⟩)
          go_roundg (gk - 1)
          case measure => have := HJ.out; have := HJJ.out; omega
          case rel =>
            refine ⟨j + 1, (by first | rfl | exact congrArg _ x0), Lib.hid (by have := HJ.out; have := HJJ.out; omega), Lib.hid ?_, Lib.hid (sp_below_fr HBJ.out HBJ.out.size hf4.out (fun k hk => by rw [hk]; exact Nat.le_refl _))⟩
            rw [HSN.out, ← Nat.add_assoc, ← Nat.add_assoc]
            exact hk4.out
        · have y0 : decide ((j : Int) < (mn : Int)) = false := decide_eq_false (by omega)
          have hjm : j = mn := by have := HJ.out; omega
          have hk := HKJ.out
          rw [hjm, ← HM.out.2.1, List.take_length] at hk
          have HKF := Lib.hid hk
          clear hjm hk
          have HWI : Hid (Calls Tryz.prog 45 #[.pointer (some ⟨w.heap.size, 0, none⟩)] wr fun e w' => e = .returned (.bool (few LL ms)) ∧ wr = w') := Lib.hid ((within_calls HKF.out).mono (by
            rintro e w' ⟨rfl, rfl⟩
            refine ⟨?_, rfl⟩
            unfold few
            rw [HL.out.2.1]))
          go_wp2_with (go_at_call 45; (with_reducible refine HWI.out.mono ?_); rintro e w4 ⟨rfl, rfl⟩)
          go_ret
          exact ⟨rfl, HBJ.out⟩

theorem info_CP : (Tryz.prog.info? 36).map (fun i => (i.zero, i.size, i.bytes)) = some (some (.agg #[.slice none 0 0, .slice none 0 0]), 2, 48) := by kernel_rfl

theorem cp_at {w : World} {ok : Nat → Prop} {A : Option Addr} {n : Nat} {l : List S36} (h : Kd.F k36 w ok A n l) {j : Nat} (hj : j < n) {x : S36} (hx : l.getD j (⟨[], []⟩ : S36) = x) :
    ∃ ad A1 c1 A2 c2, A = some ad ∧ w.cell? (ad.add (j * 2)) = some (.slice A1 x.f0.length c1) ∧ w.cell? ⟨(ad.add (j * 2)).block, (ad.add (j * 2)).off + 1, none⟩ = some (.slice A2 x.f1.length c2) ∧ Kd.F (Kd.int .u8) w ok A1 x.f0.length x.f0 ∧ Kd.F (Kd.int .u8) w ok A2 x.f1.length x.f1 ∧ x.f0.length ≤ c1 ∧ x.f1.length ≤ c2 := by
  obtain ⟨ad, cs', rfl, hcl, hK, hcell, hokb⟩ := Kd.F_get h (⟨[], []⟩ : S36) (j : Int) (Int.natCast_nonneg _) (by omega)
  obtain ⟨A1, c1, A2, c2, rfl, hl1, hF1, hl2, hF2⟩ := k36_openF hK
  have r0 := hcell 0 _ rfl
  have r1 := hcell 1 _ rfl
  rw [Int.toNat_natCast, hx] at r0 r1 hF1 hF2 hl1 hl2
  have e3 : j * k36.sz + 1 = j * 2 + 1 := rfl
  rw [e3, add_field ad (j * 2) 1 (by omega)] at r1
  exact ⟨ad, A1, c1, A2, c2, rfl, r0, r1, hF1, hF2, hl1, hl2⟩

end Go.Proofs.YtdkkkikcigjlhaaGreatDoor.Md

namespace Go.Proofs.YtdkkkikcigjlhaaGreatDoor.Md
open Go.RowKit Go.Proofs.YtdkkkikcigjlhaaGreatDoor.Con Go.Proofs.YtdkkkikcigjlhaaGreatDoor.Run Go.Proofs.YtdkkkikcigjlhaaGreatDoorW.PrintWords Go.Proofs.YtdkkkikcigjlhaaGreatDoorW.PrintMore Go.Proofs.YtdkkkikcigjlhaaGreatDoor.Cmp Go.Sort Go.Proofs.YtdkkkikcigjlhaaGreatDoor.PFnMemMap
attribute [local go_sem] max2_int min2_int max_two min_two

def curV (o : Int) (A : Option Addr) (n c : Nat) (i : Int) : Value := .agg #[.int .i64 o, .slice A n c, .int .i64 i]

def CmTold (o : Int) (A : Option Addr) (n c : Nat) (L : List KV) (w : World) (j : Int) (e : Ending) (w' : World) : Prop :=
  e = .returned (.tuple #[curV o A n c j, .bool (onL L j)]) ∧ Below w.heap.size w w'

theorem two_new (w : World) (x y : Array Value) (t : TypeId) : ((w.alloc (.cells x t)).alloc (.cells y t)).heap[w.heap.size]? = some (.cells x t (0, 0)) ∧ ((w.alloc (.cells x t)).alloc (.cells y t)).heap[w.heap.size + 1]? = some (.cells y t (0, 0)) ∧ Below w.heap.size w ((w.alloc (.cells x t)).alloc (.cells y t)) := by
  have h1 := below_alloc (Below.refl w.heap.size w) (.cells x t)
  have n1 := blk_new w (.cells x t)
  have n2 := blk_new (w.alloc (.cells x t)) (.cells y t)
  rw [World.size_alloc] at n2
  have h2 := below_alloc (Below.refl (w.alloc (.cells x t)).heap.size (w.alloc (.cells x t))) (.cells y t)
  exact ⟨(h2.block _ (blk_lt n1)).trans n1, n2, h1.trans (h2.mono h1.size)⟩

set_option maxHeartbeats 6400000 in
theorem move_c {w : World} {A B : Option Addr} {n c d : Nat} {l : List S36} {key : List Int} (o i m : Int) (hA : Kd.C k36 w A n l) (hn : l.length = n) (hc : n ≤ c) (hB : Kd.C (Kd.int .u8) w B key.length key) (hd : key.length ≤ d) (hk : key.length ≤ 4294967296) (hx : ∀ x ∈ l, x.f0.length ≤ 4294967296) (hl : n ≤ 4294967296) (hi : -1 ≤ i ∧ i ≤ (n : Int)) :
    Calls Tryz.prog 64 #[curV o A n c i, .int .i64 m, .slice B key.length d] w fun e w' => CmTold o A n c (kvC l) w (mvL (cmpO o) (kvC l) i m key) e w' := by
  subst hn
  have HA := Lib.hid (And.intro hA (And.intro hc (And.intro hB (And.intro hd (And.intro hk (And.intro hx hl))))))
  have HL := Lib.hid hl
  have HI := Lib.hid hi
  have hlen : (kvC l).length = l.length := kvC_len l
  have HLN := Lib.hid hlen
  have H2 := Lib.hid (two_new w #[.int .i64 o, .slice A l.length c, .int .i64 i] #[.int .i64 0, .slice none 0 0, .int .i64 0] 116)
  clear hA hc hB hd hk hx hl hi hlen
  unfold curV
  go_enter Tryz.func64, Tryz.ntmps64
  go_upto_region 1 with (fail)
  have ha := H2.out.1
  have hb := H2.out.2.1
  have HBL := Lib.hid H2.out.2.2
  clear H2
  generalize (w.alloc (.cells #[.int .i64 o, .slice A l.length c, .int .i64 i] 116)).alloc (.cells #[.int .i64 0, .slice none 0 0, .int .i64 0] 116) = w1 at *
  have k0 : w1.cell? ⟨w.heap.size, 0, none⟩ = some (.int .i64 o) := (blk_cell ha 0).trans rfl
  have k1 : w1.cell? ⟨w.heap.size, 1, none⟩ = some (.slice A l.length c) := (blk_cell ha 1).trans rfl
  have k2 : w1.cell? ⟨w.heap.size, 2, none⟩ = some (.int .i64 i) := (blk_cell ha 2).trans rfl
  have f2 : w1.frozen? ⟨w.heap.size, 2, none⟩ = false := blk_frozen ha 2
  have HAB := Lib.hid (And.intro ha hb)
  clear ha hb
  go_upto_block 0 with (fail)
  go_cut [] (fun wc => Hid (wc.heap[w.heap.size]? = some (.cells #[.int .i64 o, .slice A l.length c, .int .i64 (mvL (cmpO o) (kvC l) i m key)] 116 (0, 0)) ∧ wc.heap[w.heap.size + 1]? = some (.cells #[.int .i64 0, .slice none 0 0, .int .i64 0] 116 (0, 0)) ∧ Below w.heap.size w wc))
  case first =>
    have fin : ∀ j, mvL (cmpO o) (kvC l) i m key = j → Hid ((w1.setCell ⟨w.heap.size, 2, none⟩ (.int .i64 j)).heap[w.heap.size]? = some (.cells #[.int .i64 o, .slice A l.length c, .int .i64 (mvL (cmpO o) (kvC l) i m key)] 116 (0, 0)) ∧ (w1.setCell ⟨w.heap.size, 2, none⟩ (.int .i64 j)).heap[w.heap.size + 1]? = some (.cells #[.int .i64 0, .slice none 0 0, .int .i64 0] 116 (0, 0)) ∧ Below w.heap.size w (w1.setCell ⟨w.heap.size, 2, none⟩ (.int .i64 j))) := fun j hj => Lib.hid ⟨by rw [hj]; exact blk_set HAB.out.1 2 _, (Below.heap_setCell _ _ _ _ (by simp)).trans HAB.out.2, below_set HBL.out (Nat.le_refl _)⟩
    have FIN := Lib.hid fin
    clear fin
    by_cases h0 : m = 0
    · have z0 : (m == 0) = true := by rw [beq_iff_eq]; exact h0
      have HM : Hid (mvL (cmpO o) (kvC l) i m key = 0) := Lib.hid (by unfold mvL; rw [if_pos h0])
      clear h0
      go_wp2
      go_meet
      case rel => exact FIN.out _ HM.out
    · have z0 : (m == 0) = false := by rw [beq_eq_false_iff_ne]; exact h0
      by_cases h1 : m = 1
      · have z1 : (m == 1) = true := by rw [beq_iff_eq]; exact h1
        have w1' : wrap64 ((l.length : Int) - 1) = (l.length : Int) - 1 := by have := HL.out; unfold wrap64; omega
        have HM : Hid (mvL (cmpO o) (kvC l) i m key = (l.length : Int) - 1) := Lib.hid (by unfold mvL; rw [if_neg h0, if_pos h1, HLN.out])
        clear h0 h1
        go_wp2
        go_meet
        case rel => first | exact FIN.out _ HM.out | (rw [w1']; exact FIN.out _ HM.out)
      · have z1 : (m == 1) = false := by rw [beq_eq_false_iff_ne]; exact h1
        by_cases h2 : m = 2
        · have z2 : (m == 2) = true := by rw [beq_iff_eq]; exact h2
          have w1' : wrap64 (i + 1) = i + 1 := by have := HL.out; have := HI.out; unfold wrap64; omega
          have HM : Hid (mvL (cmpO o) (kvC l) i m key = if i + 1 ≤ (l.length : Int) then i + 1 else (l.length : Int)) := Lib.hid (by unfold mvL; rw [if_neg h0, if_neg h1, if_pos h2, HLN.out])
          clear h0 h1 h2
          go_wp2
          all_goals (
            go_meet
            case rel =>
              refine FIN.out _ (HM.out.trans ?_)
              split <;> omega)
        · have z2 : (m == 2) = false := by rw [beq_eq_false_iff_ne]; exact h2
          by_cases h3 : m = 3
          · have z3 : (m == 3) = true := by rw [beq_iff_eq]; exact h3
            have w1' : wrap64 (i - 1) = i - 1 := by have := HL.out; have := HI.out; unfold wrap64; omega
            have HM : Hid (mvL (cmpO o) (kvC l) i m key = if -1 ≤ i - 1 then i - 1 else -1) := Lib.hid (by unfold mvL; rw [if_neg h0, if_neg h1, if_neg h2, if_pos h3])
            clear h0 h1 h2 h3
            go_wp2
            all_goals (
              go_meet
              case rel =>
                refine FIN.out _ (HM.out.trans ?_)
                split <;> omega)
          · have z3 : (m == 3) = false := by rw [beq_eq_false_iff_ne]; exact h3
            have HM : Hid (mvL (cmpO o) (kvC l) i m key = (findL (cmpO o) key (kvC l) : Int)) := Lib.hid (by unfold mvL; rw [if_neg h0, if_neg h1, if_neg h2, if_neg h3])
            clear h0 h1 h2 h3
            go_wp2_with (go_at_call 35; (with_reducible refine (find_calls o (Kd.C_below HA.out.1 HBL.out) HA.out.2.1 (Kd.C_below HA.out.2.2.1 HBL.out) HA.out.2.2.2.1 HA.out.2.2.2.2.1 HA.out.2.2.2.2.2.1 HL.out).mono ?_); rintro e w2 ⟨rfl, hb2⟩; have g2 := (hb2.block _ (blk_lt HAB.out.1)).trans HAB.out.1; have g3 := (hb2.block _ (blk_lt HAB.out.2)).trans HAB.out.2; have f3 := blk_frozen g2 2; have k3 := (blk_cell g2 2).trans rfl)
            go_meet
            case rel => exact Lib.hid ⟨by rw [HM.out]; exact blk_set g2 2 _, (Below.heap_setCell _ _ _ _ (by simp)).trans g3, below_set (HBL.out.trans (hb2.mono HBL.out.size)) (Nat.le_refl _)⟩
  case rest =>
    have HC := hcut
    generalize hj : mvL (cmpO o) (kvC l) i m key = j at *
    have HJ := Lib.hid hj
    clear hj hcut
    have ha := HC.out.1
    have hb := HC.out.2.1
    have x0 : wc.cell? ⟨w.heap.size, 0, none⟩ = some (.int .i64 o) := (blk_cell ha 0).trans rfl
    have x1 : wc.cell? ⟨w.heap.size, 1, none⟩ = some (.slice A l.length c) := (blk_cell ha 1).trans rfl
    have x2 : wc.cell? ⟨w.heap.size, 2, none⟩ = some (.int .i64 j) := (blk_cell ha 2).trans rfl
    have y0 : wc.cell? ⟨w.heap.size + 1, 0, none⟩ = some (.int .i64 0) := (blk_cell hb 0).trans rfl
    have y1 : wc.cell? ⟨w.heap.size + 1, 1, none⟩ = some (.slice none 0 0) := (blk_cell hb 1).trans rfl
    have y2 : wc.cell? ⟨w.heap.size + 1, 2, none⟩ = some (.int .i64 0) := (blk_cell hb 2).trans rfl
    have g0 : wc.frozen? ⟨w.heap.size + 1, 0, none⟩ = false := blk_frozen hb 0
    have g1 : wc.frozen? ⟨w.heap.size + 1, 1, none⟩ = false := blk_frozen hb 1
    have g2 : wc.frozen? ⟨w.heap.size + 1, 2, none⟩ = false := blk_frozen hb 2
    have hb3 := blk_set (blk_set (blk_set hb 0 (.int .i64 o)) 1 (.slice A l.length c)) 2 (.int .i64 j)
    have q0 : (((wc.setCell ⟨w.heap.size + 1, 0, none⟩ (.int .i64 o)).setCell ⟨w.heap.size + 1, 1, none⟩ (.slice A l.length c)).setCell ⟨w.heap.size + 1, 2, none⟩ (.int .i64 j)).drew.cell? ⟨w.heap.size + 1, 0, none⟩ = some (.int .i64 o) := (blk_cell hb3 0).trans rfl
    have q1 : (((wc.setCell ⟨w.heap.size + 1, 0, none⟩ (.int .i64 o)).setCell ⟨w.heap.size + 1, 1, none⟩ (.slice A l.length c)).setCell ⟨w.heap.size + 1, 2, none⟩ (.int .i64 j)).drew.cell? ⟨w.heap.size + 1, 1, none⟩ = some (.slice A l.length c) := (blk_cell hb3 1).trans rfl
    have q2 : (((wc.setCell ⟨w.heap.size + 1, 0, none⟩ (.int .i64 o)).setCell ⟨w.heap.size + 1, 1, none⟩ (.slice A l.length c)).setCell ⟨w.heap.size + 1, 2, none⟩ (.int .i64 j)).drew.cell? ⟨w.heap.size + 1, 2, none⟩ = some (.int .i64 j) := (blk_cell hb3 2).trans rfl
    have HBF := Lib.hid (below_drew1 (below_set (g := w.heap.size + 1) (j := 2) (below_set (g := w.heap.size + 1) (j := 1) (below_set (g := w.heap.size + 1) (j := 0) HC.out.2.2 (Nat.le_succ _) (v := .int .i64 o)) (Nat.le_succ _) (v := .slice A l.length c)) (Nat.le_succ _) (v := .int .i64 j)))
    clear ha hb k0 k1 k2 f2 hb3 HC
    clear HA HI HAB HBL
    by_cases h0 : 0 ≤ j
    · have z0 : decide (0 ≤ j) = true := decide_eq_true h0
      by_cases h1 : j < (l.length : Int)
      · have z1 : decide (j < (l.length : Int)) = true := decide_eq_true h1
        have HON : Hid (onL (kvC l) j = true) := Lib.hid (by unfold onL; rw [HLN.out, z0, z1]; rfl)
        clear h0 h1
        go_upto_region 11 with (fail)
        go_region
        all_goals (
          rename_i K' hK'
          simp only [Exit.then]
          refine hK' _ _ ?_
          go_wp2
          simp [bodyPost, results, Tryz.results64, go_sem, q0, q1, q2]
          exact ⟨by rw [HJ.out, HON.out]; rfl, HBF.out⟩)
      · have z1 : decide (j < (l.length : Int)) = false := decide_eq_false h1
        have HON : Hid (onL (kvC l) j = false) := Lib.hid (by unfold onL; rw [HLN.out, z0, z1]; rfl)
        clear h0 h1
        go_upto_region 11 with (fail)
        go_region
        all_goals (
          rename_i K' hK'
          simp only [Exit.then]
          refine hK' _ _ ?_
          go_wp2
          simp [bodyPost, results, Tryz.results64, go_sem, q0, q1, q2]
          exact ⟨by rw [HJ.out, HON.out]; rfl, HBF.out⟩)
    · have z0 : decide (0 ≤ j) = false := decide_eq_false h0
      have HON : Hid (onL (kvC l) j = false) := Lib.hid (by unfold onL; rw [z0]; rfl)
      clear h0
      go_upto_region 11 with (fail)
      go_region
      all_goals (
        rename_i K' hK'
        simp only [Exit.then]
        refine hK' _ _ ?_
        go_wp2
        simp [bodyPost, results, Tryz.results64, go_sem, q0, q1, q2]
        exact ⟨by rw [HJ.out, HON.out]; rfl, HBF.out⟩)

end Go.Proofs.YtdkkkikcigjlhaaGreatDoor.Md

namespace Go.Proofs.YtdkkkikcigjlhaaGreatDoor.Md
open Go.RowKit Go.Proofs.YtdkkkikcigjlhaaGreatDoor.Con Go.Proofs.YtdkkkikcigjlhaaGreatDoor.Run Go.Proofs.YtdkkkikcigjlhaaGreatDoorW.PrintWords Go.Proofs.YtdkkkikcigjlhaaGreatDoorW.PrintMore Go.Proofs.YtdkkkikcigjlhaaGreatDoor.Cmp Go.Sort Go.RwLone

theorem next_idx {i n : Nat} (h : i < n) (hn : n ≤ 12) : wrap64 ((i : Int) + 1) = ((i + 1 : Nat) : Int) := by rw [wz (by omega) (by omega)]; rfl
theorem round_less {i n k : Nat} (h : i < n) (hk : n ≤ i + k) : k - 1 < k := by omega
theorem round_next {i n k : Nat} (h : i < n) (hk : n ≤ i + k) : i + 1 ≤ n ∧ n ≤ i + 1 + (k - 1) := by omega

end Go.Proofs.YtdkkkikcigjlhaaGreatDoor.Md
