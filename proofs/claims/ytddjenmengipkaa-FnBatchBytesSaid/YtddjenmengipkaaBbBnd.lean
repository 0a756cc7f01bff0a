/- The law FnBatchBytes' own bounds: bounds.add, within, fewRecs. -/
import Derived.Test.YtddjenmengipkaaBbFew
import Derived.Test.YtddjenmengipkaaBtLaw
namespace Go.Proofs.Ytddjenmengipkaa.Bt
open Go.RowKit Go.Proofs.YtddjenmengipkaaW.PrintWords Go.Proofs.YtddjenmengipkaaW.PrintMore Go.Proofs.Ytddjenmengipkaa.PFnBatchLoads Go.Proofs.Ytddjenmengipkaa.Cmp Go.Sort
set_option linter.unusedVariables false

theorem within_calls {w : World} {g : Nat} {b n : Int} (h : w.heap[g]? = some (.cells #[.int .i64 b, .int .i64 n] 56 (0, 0))) :
    Calls Try.prog 23 #[.pointer (some ⟨g, 0, none⟩)] w fun e w' => e = .returned (.bool (decide (b ≤ 1048576 ∧ n ≤ 4096))) ∧ w = w' := by
  have e0 : w.cell? ⟨g, 0, none⟩ = some (.int .i64 b) := (blk_cell h 0).trans rfl
  have e1 : w.cell? ⟨g, 1, none⟩ = some (.int .i64 n) := (blk_cell h 1).trans rfl
  by_cases hb : b ≤ 1048576
  · by_cases hn : n ≤ 4096
    · rw [decide_eq_true (⟨hb, hn⟩ : b ≤ 1048576 ∧ n ≤ 4096)]
      go_enter Try.func23, Try.ntmps23
      go_wp2
      go_ret
      exact ⟨rfl, rfl⟩
    · rw [decide_eq_false (fun q => hn q.2)]
      go_enter Try.func23, Try.ntmps23
      go_wp2
      go_ret
      exact ⟨rfl, rfl⟩
  · rw [decide_eq_false (fun q => hb q.1)]
    go_enter Try.func23, Try.ntmps23
    go_wp2
    go_ret
    exact ⟨rfl, rfl⟩

/-- what two texts weigh, one by one -/
def two (kn vn i : Nat) : Nat := if i = 0 then 0 else if i = 1 then kn else kn + vn

set_option maxHeartbeats 1600000 in
set_option maxRecDepth 100000 in
theorem add_calls {w : World} {g h b n kn vn kc vc : Nat} {K V : Option Addr} (hg : w.heap[g]? = some (.cells #[.int .i64 (b : Int), .int .i64 (n : Int)] 56 (0, 0))) (hh : w.heap[h]? = some (.cells #[.slice K kn kc, .slice V vn vc] 22 (0, 0))) (hb : (b : Int) + kn + vn ≤ 9223372036854775807) (hn : n ≤ 4294967296) :
    Calls Try.prog 22 #[.pointer (some ⟨g, 0, none⟩), .slice (some ⟨h, 0, none⟩) 2 2] w fun e w' => e = .returned (.tuple #[]) ∧ w'.heap[g]? = some (.cells #[.int .i64 ((b + kn + vn : Nat) : Int), .int .i64 ((n + 1 : Nat) : Int)] 56 (0, 0)) ∧ w.grownBy w' (some g) := by
  have hne : g ≠ h := by
    rintro rfl
    rw [hg] at hh
    simp at hh
  have e1 : w.cell? ⟨g, 1, none⟩ = some (.int .i64 (n : Int)) := (blk_cell hg 1).trans rfl
  have f1 := blk_frozen hg 1
  have HG := Lib.hid hg
  have HH := Lib.hid hh
  have HBB := Lib.hid hb
  clear hg hh hb
  go_enter Try.func22, Try.ntmps22
  go_wp2
  have hk1 := (blk_set HG.out 1 (.int .i64 ((n : Int) + 1))).trans (show _ = some (Obj.cells #[.int .i64 (b : Int), .int .i64 ((n : Int) + 1)] 56 (0, 0)) from rfl)
  have HK1 := Lib.hid hk1
  clear hk1 e1 f1
  go_loopw [4] (fun v4 wr => ∃ i : Nat, v4 = .int .i64 (i : Int) ∧ i ≤ 2 ∧ Hid (wr.heap[g]? = some (.cells #[.int .i64 ((b + two kn vn i : Nat) : Int), .int .i64 ((n : Int) + 1)] 56 (0, 0))) ∧ Hid (w.grownBy wr (some g))) (fun v4 _ => 2 - (intOf v4).toNat)
  case atStart => exact ⟨0, rfl, by omega, HK1, Lib.hid (grown_set _ _ _ _)⟩
  case round =>
    obtain ⟨i, rfl, hi, HC, HW⟩ := hrel
    have hhr := (HW.out.block h (blk_lt HH.out) (fun e => hne (by injection e with e; exact e.symm))).trans HH.out
    have step : ∀ (i : Nat) (L : Option Addr) (m c : Nat) (wr : World), i < 2 → wr.heap[g]? = some (.cells #[.int .i64 ((b + two kn vn i : Nat) : Int), .int .i64 ((n : Int) + 1)] 56 (0, 0)) → True := fun _ _ _ _ _ _ _ => trivial
    by_cases hi0 : i = 0
    · subst hi0
      have q0 := (blk_cell hhr 0).trans rfl
      have hw1 : IntKind.i64.wrap ((b : Int) + (kn : Int)) = (b : Int) + kn := by have := HBB.out; rw [IntKind.wrap_i64]; omega
      have hk := HC.out
      rw [show (((b + two kn vn 0 : Nat) : Int)) = (b : Int) by simp [two]] at hk
      have HKK := Lib.hid hk
      clear hk step
      go_wp2
      refine still_tail 12 (by kernel_rfl) (by kernel_rfl) ?_
      intro W3 hW3
      have k3 : W3.heap[g]? = _ := (congrArg (fun h => h[g]?) (show W3.heap = wr.heap by rw [hW3]; rfl)).trans HKK.out
      have h3 : W3.heap[h]? = _ := (congrArg (fun q => q[h]?) (show W3.heap = wr.heap by rw [hW3]; rfl)).trans hhr
      have g3 : Hid (w.grownBy W3 (some g)) := by rw [hW3]; exact Lib.hid ⟨HW.out.os, HW.out.tape, HW.out.output, HW.out.size, HW.out.block⟩
      clear hW3
      have y0 := (blk_cell k3 0).trans rfl
      have y1 := blk_frozen k3 0
      have y2 := (blk_cell h3 0).trans rfl
      simp only [List.getElem?_toArray, List.getElem?_cons_zero] at y0 y2
      have K3 := Lib.hid k3
      clear k3 h3 q0
      simp only [List.take_succ_cons, List.take_zero, List.drop_succ_cons, List.drop_zero]
      repeat still_step
      refine wpStill_nil ?_
      go_wp2
      go_roundw
      case rel => exact ⟨1, rfl, by omega, Lib.hid ((blk_set K3.out 0 _).trans (by simp [two])), Lib.hid (g3.out.trans (grown_set _ _ _ _))⟩
      case measure => simp [intOf]
    · by_cases hi1 : i = 1
      · subst hi1
        have q0 := (blk_cell hhr 1).trans rfl
        have hw1 : IntKind.i64.wrap ((b : Int) + (kn : Int) + (vn : Int)) = (b : Int) + kn + vn := by have := HBB.out; rw [IntKind.wrap_i64]; omega
        have hk := HC.out
        rw [show (((b + two kn vn 1 : Nat) : Int)) = (b : Int) + kn by simp [two]] at hk
        have HKK := Lib.hid hk
        clear hk step
        go_wp2
        refine still_tail 12 (by kernel_rfl) (by kernel_rfl) ?_
        intro W3 hW3
        have k3 : W3.heap[g]? = _ := (congrArg (fun h => h[g]?) (show W3.heap = wr.heap by rw [hW3]; rfl)).trans HKK.out
        have h3 : W3.heap[h]? = _ := (congrArg (fun q => q[h]?) (show W3.heap = wr.heap by rw [hW3]; rfl)).trans hhr
        have g3 : Hid (w.grownBy W3 (some g)) := by rw [hW3]; exact Lib.hid ⟨HW.out.os, HW.out.tape, HW.out.output, HW.out.size, HW.out.block⟩
        clear hW3
        have y0 := (blk_cell k3 0).trans rfl
        have y1 := blk_frozen k3 0
        have y2 := (blk_cell h3 1).trans rfl
        simp only [List.getElem?_toArray, List.getElem?_cons_zero, List.getElem?_cons_succ] at y0 y2
        have K3 := Lib.hid k3
        clear k3 h3 q0
        simp only [List.take_succ_cons, List.take_zero, List.drop_succ_cons, List.drop_zero]
        repeat still_step
        refine wpStill_nil ?_
        go_wp2
        go_roundw
        case rel => exact ⟨2, rfl, by omega, Lib.hid ((blk_set K3.out 0 _).trans (by simp [two]; omega)), Lib.hid (g3.out.trans (grown_set _ _ _ _))⟩
        case measure => simp [intOf]
      · have : i = 2 := by omega
        subst this
        have hk := HC.out
        rw [show (((b + two kn vn 2 : Nat) : Int)) = ((b + kn + vn : Nat) : Int) by simp [two]; omega] at hk
        go_wp2
        go_end0
        exact ⟨rfl, hk, HW.out⟩

theorem wt_le {rs : List Rec} (h : ∀ r ∈ rs, r.2.1.length ≤ 2147483647 ∧ r.2.2.length ≤ 2147483647) : wt rs ≤ rs.length * 4294967294 := by
  induction rs with
  | nil => simp [wt]
  | cons x rs ih =>
    have h1 := h x (by simp)
    have h2 := ih (fun r hr => h r (by simp [hr]))
    simp only [wt, List.length_cons]
    omega

set_option maxHeartbeats 1600000 in
set_option maxRecDepth 100000 in
theorem fewRecs_calls {w : World} {A : Option Addr} {c : Nat} {rs : List Rec} (h : Kd.C kR w A rs.length rs) (hf : Fit rs) :
    Calls Try.prog 10 #[.slice A rs.length c] w fun e w' => e = .returned (.bool (decide ((wt rs : Int) ≤ 1048576 ∧ (rs.length : Int) ≤ 4096))) ∧ Below w.heap.size w w' := by
  have HC := Lib.hid h
  have HF := Lib.hid hf
  have hn31 := hf.1
  clear h hf
  generalize hn : rs.length = n at *
  have HN := Lib.hid hn
  clear hn
  have hb0 := below_alloc (Below.refl w.heap.size w) (.cells #[.int .i64 0, .int .i64 0] 56)
  have hk0 := blk_new w (.cells #[.int .i64 0, .int .i64 0] 56)
  have HB0 := Lib.hid hb0
  have HK0 := Lib.hid hk0
  clear hb0 hk0
  go_enter Try.func10, Try.ntmps10
  go_wp2
  go_loopw [4] (fun v4 wr => ∃ i : Nat, v4 = .int .i64 (i : Int) ∧ i ≤ n ∧ Hid (wr.heap[w.heap.size]? = some (.cells #[.int .i64 ((wt (rs.take i) : Nat) : Int), .int .i64 (i : Int)] 56 (0, 0))) ∧ Hid (Below w.heap.size w wr)) (fun v4 _ => n - (intOf v4).toNat)
  case atStart => exact ⟨0, rfl, Nat.zero_le _, HK0, HB0⟩
  case round =>
    obtain ⟨i, rfl, hi, HK, HR⟩ := hrel
    by_cases hlt : i < n
    · obtain ⟨ad, d, k, v, K, kc, V, vc, hA, hx, c0, c1, c2, hk, hkc, hv, hvc⟩ := at_R (Kd.C_below HC.out HR.out) i hlt
      subst hA
      have HX := Lib.hid (take_next' hx)
      have hwt : (wt (rs.take i) : Int) + k.length + v.length ≤ 9223372036854775807 := by
        have q1 := wt_le (rs := rs.take (i + 1)) (fun r hr => HF.out.2 r (List.mem_of_mem_take hr))
        have q2 : (rs.take (i + 1)).length ≤ i + 1 := List.length_take_le _ _
        have q3 := wt_snoc (rs.take i) (d, k, v)
        rw [HX.out] at q3
        simp only at q3
        have q4 : (rs.take (i + 1)).length * 4294967294 ≤ 2147483647 * 4294967294 := Nat.mul_le_mul_right _ (by omega)
        omega
      have HWT := Lib.hid hwt
      have HWS : Hid (wt (rs.take (i + 1)) = wt (rs.take i) + k.length + v.length) := by
        have q3 := wt_snoc (rs.take i) (d, k, v)
        rw [HX.out] at q3
        simp only at q3
        exact Lib.hid (by omega)
      generalize k.length = kn at *
      generalize v.length = vn at *
      clear hx hk hkc hv hvc hwt
      go_wp2
      refine still_tail 10 (by kernel_rfl) (by kernel_rfl) ?_
      intro W3 hW3
      have y1 : W3.cell? ⟨(ad.add (i * 3)).block, (ad.add (i * 3)).off + 1, none⟩ = some (.slice K kn kc) := by rw [hW3]; exact c1
      have y2 : W3.cell? ⟨(ad.add (i * 3)).block, (ad.add (i * 3)).off + 2, none⟩ = some (.slice V vn vc) := by rw [hW3]; exact c2
      have k3 : Hid (W3.heap[w.heap.size]? = some (.cells #[.int .i64 ((wt (rs.take i) : Nat) : Int), .int .i64 (i : Int)] 56 (0, 0))) := by rw [hW3]; exact Lib.hid HK.out
      have r3 : Hid (Below w.heap.size w W3) := by rw [hW3]; exact Lib.hid HR.out.drew
      clear hW3 c0 c1 c2
      simp only [List.take_succ_cons, List.take_zero, List.drop_succ_cons, List.drop_zero]
      repeat still_step
      refine wpStill_nil ?_
      have hba := below_alloc (Below.refl W3.heap.size W3) (.cells #[.slice K kn kc, .slice V vn vc] 22)
      have hA := Lib.hid (add_calls (kn := kn) (vn := vn) ((hba.block w.heap.size (blk_lt k3.out)).trans k3.out) (blk_new W3 (.cells #[.slice K kn kc, .slice V vn vc] 22)) HWT.out (by omega))
      have HBA := Lib.hid hba
      clear hba y1 y2
      go_wp2_with (go_at_call 22; (with_reducible refine hA.out.mono ?_); rintro e w4 ⟨rfl, hk4, hg4⟩)
      go_roundw
      case rel =>
        refine ⟨i + 1, by go_num, by omega, Lib.hid (by rw [HWS.out]; exact hk4), Lib.hid ?_⟩
        exact (below_then r3.out r3.out.size HBA.out).grown hg4 (Nat.le_trans r3.out.size HBA.out.size) (fun k hk => by injection hk with hk; omega)
      case measure => simp [intOf]; omega
    · have : i = n := by omega
      subst this
      have hT : rs.take i = rs := by rw [← HN.out]; exact List.take_length
      rw [hT] at HK
      go_wp2_with (go_at_call 23; (with_reducible refine (within_calls HK.out).mono ?_); rintro e w4 ⟨rfl, rfl⟩)
      go_ret
      exact ⟨ret_v (by simp), HR.out⟩

set_option maxHeartbeats 1600000 in
set_option maxRecDepth 100000 in
theorem sameNrm_calls {w : World} {b1 b2 : Nat} {v1 v2 : Value} {cs1 cs2 : List Value} {rs : List Rec} (hr1 : w.ownsRow b1 38 3 v1 rs.length cs1) (hc1 : RecB w (fun _ => True) cs1 (rs.map nrm)) (hr2 : w.ownsRow b2 41 3 v2 rs.length cs2) (hc2 : RecB w (fun _ => True) cs2 rs) (hl : rs.length ≤ 4294967296) :
    Calls Try.prog 8 #[v1, v2] w fun e w' => e = .returned (.bool true) ∧ Below w.heap.size w w' := by
  obtain ⟨A1, c1, rfl⟩ := own_slice hr1
  obtain ⟨A2, c2, rfl⟩ := own_slice hr2
  have R1 := Lib.hid hr1
  have R2 := Lib.hid hr2
  have C1 := Lib.hid hc1
  have C2 := Lib.hid hc2
  clear hr1 hc1 hr2 hc2
  generalize hn : rs.length = n at *
  have HN := Lib.hid hn
  clear hn
  go_enter Try.func8, Try.ntmps8
  go_wp2
  go_loopw [5] (fun v5 wr => ∃ i : Nat, v5 = .int .i64 (i : Int) ∧ i ≤ n ∧ Hid (Below w.heap.size w wr)) (fun v5 _ => n - (intOf v5).toNat)
  case atStart => exact ⟨0, rfl, Nat.zero_le _, Below.refl _ _⟩
  case round =>
    obtain ⟨i, rfl, hi, HR⟩ := hrel
    by_cases hlt : i < n
    · obtain ⟨d, k, v, Ak, ak, Av, av, h1, h2, h3, h4, h5, h6, h7, h8⟩ := C1.out.at_ i (by rw [List.length_map, HN.out]; exact hlt)
      obtain ⟨d', k', v', Bk, bk, Bv, bv, h1', h2', h3', h4', h5', h6', h7', h8'⟩ := C2.out.at_ i (by rw [HN.out]; exact hlt)
      rw [List.getElem?_map, h1'] at h1
      injection h1 with h1
      obtain ⟨g1, q1, e1, _, t1⟩ := own_cell R1.out (by omega)
      obtain ⟨g2, q2, e2, _, t2⟩ := own_cell R2.out (by omega)
      injection e1 with e1 _ e1'
      injection e2 with e2 _ e2'
      subst e1 e1' e2 e2'
      have x0 : wr.cell? ⟨g1, i * 3, none⟩ = some (.bool d) := pw_cell_below HR.out (t1 _ _ h2)
      have x1 := pw_cell_below HR.out (t1 _ _ h3)
      have x2 := pw_cell_below HR.out (t1 _ _ h4)
      have y0 : wr.cell? ⟨g2, i * 3, none⟩ = some (.bool d') := pw_cell_below HR.out (t2 _ _ h2')
      have y1 := pw_cell_below HR.out (t2 _ _ h3')
      have y2 := pw_cell_below HR.out (t2 _ _ h4')
      have KX0 := cell_regrown x0
      have KX1 := cell_regrown x1
      have KX2 := cell_regrown x2
      have KY0 := cell_regrown y0
      have KY1 := cell_regrown y1
      have KY2 := cell_regrown y2
      have HS : ∀ d os, Hid (Below w.heap.size w (grow (redrawn wr d) os)) := fun d os => below_then HR.out HR.out.size (below_regrown wr d os)
      cases d'
      · skip
        obtain ⟨rfl, rfl, rfl⟩ : d = false ∧ k = k' ∧ v = v' := by simp [nrm] at h1; exact ⟨h1.1, h1.2.1.symm, h1.2.2.symm⟩
        have SK : ∀ d os, Hid (Calls Try.prog 14 #[.slice Ak k.length ak, .slice Bk k.length bk] (grow (redrawn wr d) os) fun e w' => e = .returned (.bool true) ∧ Below (grow (redrawn wr d) os).heap.size (grow (redrawn wr d) os) w') := fun d os => Lib.hid (same_calls (Kd.C_below h5 (HS d os).out) h6 (Kd.C_below h5' (HS d os).out) h6')
        have SV : ∀ d os, Hid (Calls Try.prog 14 #[.slice Av v.length av, .slice Bv v.length bv] (grow (redrawn wr d) os) fun e w' => e = .returned (.bool true) ∧ Below (grow (redrawn wr d) os).heap.size (grow (redrawn wr d) os) w') := fun d os => Lib.hid (same_calls (Kd.C_below h7 (HS d os).out) h8 (Kd.C_below h7' (HS d os).out) h8')
        clear h1 h2 h3 h4 h5 h6 h7 h8 h1' h2' h3' h4' h5' h6' h7' h8' t1 t2
        go_wp2
        refine wp_region_quiet_below (by kernel_rfl) (by kernel_rfl) ?_
        repeat (go_big_quiet_step (first
          | (go_at_call 14; with_reducible exact Calls.regrown_of (SK _ _).out)
          | (go_at_call 14; with_reducible exact Calls.regrown_of (SV _ _).out)))
        refine wpQuiet_nil ?_
        intro _ hw'
        obtain ⟨⟨dq, osq⟩, hw''⟩ := hw'
        subst hw''
        go_wp2
        go_roundw
        case rel => exact ⟨i + 1, by go_num, by omega, HS _ _⟩
        case measure => simp [intOf]; omega
      · skip
        obtain ⟨rfl, rfl⟩ : d = true ∧ k = k' := by simp [nrm] at h1; exact ⟨h1.1, h1.2.1.symm⟩
        have SK : ∀ d os, Hid (Calls Try.prog 14 #[.slice Ak k.length ak, .slice Bk k.length bk] (grow (redrawn wr d) os) fun e w' => e = .returned (.bool true) ∧ Below (grow (redrawn wr d) os).heap.size (grow (redrawn wr d) os) w') := fun d os => Lib.hid (same_calls (Kd.C_below h5 (HS d os).out) h6 (Kd.C_below h5' (HS d os).out) h6')
        clear h1 h2 h3 h4 h5 h6 h7 h8 h1' h2' h3' h4' h5' h6' h7' h8' t1 t2
        go_wp2
        refine wp_region_quiet_below (by kernel_rfl) (by kernel_rfl) ?_
        repeat (go_big_quiet_step (first
          | (go_at_call 14; with_reducible exact Calls.regrown_of (SK _ _).out)))
        refine wpQuiet_nil ?_
        intro _ hw'
        obtain ⟨⟨dq, osq⟩, hw''⟩ := hw'
        subst hw''
        go_wp2
        go_roundw
        case rel => exact ⟨i + 1, by go_num, by omega, HS _ _⟩
        case measure => simp [intOf]; omega
    · have : i = n := by omega
      subst this
      go_wp2
      go_ret
      exact ⟨rfl, HR.out⟩

end Go.Proofs.Ytddjenmengipkaa.Bt
