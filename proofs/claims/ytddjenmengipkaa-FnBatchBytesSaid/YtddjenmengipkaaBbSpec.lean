/- Batches written by the reference: Uvar, Sized, BatchWrite; the law's records turned into the reference's. -/
import Derived.Test.YtddjenmengipkaaBbDump
import Derived.Test.YtddjenmengipkaaBtSame
namespace Go.Proofs.Ytddjenmengipkaa.Bt
open Go.RowKit Go.Proofs.YtddjenmengipkaaW.PrintWords Go.Proofs.YtddjenmengipkaaW.PrintMore Go.Proofs.Ytddjenmengipkaa.PFnBatchLoads Go.Proofs.Ytddjenmengipkaa.Cmp
set_option linter.unusedVariables false

theorem nums_snoc (l : List Int) (b : Int) : nums .u8 l ++ [.int .u8 b] = nums .u8 (l ++ [b]) := by simp [nums]
theorem info_u8z : (Try.prog.info? 5).map (fun i => (i.zero, i.size, i.bytes)) = some (some (.int .u8 0), 1, 1) := info_u8

set_option maxHeartbeats 800000 in
set_option maxRecDepth 100000 in
theorem Uvar_calls {w : World} {x : Nat} (hx : x ≤ 4294967296) :
    Calls Try.prog 33 #[.int .u64 (x : Int)] w fun e w' => ∃ v, e = .returned v ∧ w'.ownsRow w.heap.size 5 1 v (uvO x).length (nums .u8 (uvO x)) ∧ Below w.heap.size w w' := by
  have hr : Hid (uvO x = [] ++ uvO x) := rfl
  have hu5 := uvO_len 5 x (by omega) (by omega)
  generalize hU : uvO x = U at *
  have HU := Lib.hid hU
  have HU5 := Lib.hid hu5
  clear hU hu5
  go_enter Try.func33, Try.ntmps33
  go_wp2
  go_loopw [0, 3] (fun v0 v3 wr => ∃ (y : Nat) (pre : List Int), v0 = .int .u64 (y : Int) ∧ y ≤ 4294967296 ∧ pre.length ≤ 5 ∧ Hid (U = pre ++ uvO y) ∧ Hid (wr.ownsRow w.heap.size 5 1 v3 pre.length (nums .u8 pre)) ∧ Hid (Below w.heap.size w wr)) (fun v0 _ _ => (intOf v0).toNat)
  case atStart => exact ⟨x, [], rfl, hx, by simp, by rw [HU.out]; exact rfl, own_nil _ _ _ _, Below.refl _ _⟩
  case round =>
    obtain ⟨y, pre, rfl, hy, hp, HP, HO, HR⟩ := hrel
    have hbz := HR.out.size
    by_cases h128 : y < 128
    · have hu := uvO_lt h128
      rw [hu] at HP
      have hlt : ¬ (128 : Int) ≤ (y : Int) := by omega
      have hmod : (y : Int) % 256 = y := by omega
      clear hr hu
      go_wp2_with (at_builtin; (refine print_append_cells w.heap.size rfl (.tmp 15) (.tmp 18) 22 5 _ 1 1 rfl Try.underlying22 info_u8 rfl (by decide) (by decide) _ pre.length (nums .u8 pre) [.int .u8 (y : Int)] rfl rfl rfl (by simp [Value.oneCell']) HO.out HR.out hbz (by omega) ?_); intro v4 w4 ho4 hb4 _ _)
      rw [nums_snoc, ← HP.out] at ho4
      have e1 : U.length = pre.length + 1 := by rw [HP.out, List.length_append, List.length_singleton]
      go_ret
      exact ⟨_, rfl, by rw [e1]; exact ho4, hb4⟩
    · have hu := uvO_ge h128
      rw [hu] at HP
      have hge : (128 : Int) ≤ (y : Int) := by omega
      have hp5 : pre.length + 1 ≤ 5 := by have := HU5.out.2; rw [HP.out] at this; simp at this; omega
      clear hr hu
      go_wp2_with (at_builtin; (refine print_append_cells w.heap.size rfl (.tmp 6) (.tmp 11) 22 5 _ 1 1 rfl Try.underlying22 info_u8 rfl (by decide) (by decide) _ pre.length (nums .u8 pre) [.int .u8 ((y : Int) % 128 + 128)] rfl rfl rfl (by simp [Value.oneCell']) HO.out HR.out hbz (by omega) ?_); intro v4 w4 ho4 hb4 _ _)
      rw [nums_snoc] at ho4
      go_roundw
      case rel =>
        refine ⟨y / 128, pre ++ [(y : Int) % 128 + 128], congrArg _ (by omega), by omega, by rw [List.length_append, List.length_singleton]; exact hp5, Lib.hid (by rw [HP.out, List.append_assoc]; congr 2), Lib.hid (by rw [List.length_append, List.length_singleton]; exact ho4), Lib.hid hb4⟩
      case measure => simp [intOf]; omega

set_option maxHeartbeats 800000 in
set_option maxRecDepth 100000 in
theorem SizedW_calls {w : World} {A : Option Addr} {c : Nat} {k : List Int} (h : Kd.C (Kd.int .u8) w A k.length k) (hk : k.length ≤ 1048576) :
    Calls Try.prog 24 #[.slice A k.length c] w fun e w' => ∃ v, e = .returned v ∧ w'.ownsRow w.heap.size 5 1 v (szO k).length (nums .u8 (szO k)) ∧ Below w.heap.size w w' := by
  have HC := Lib.hid h
  clear h
  have hU := Lib.hid (Uvar_calls (w := w) (x := k.length) (by omega))
  have hul := uvO_len 3 k.length (by omega) (by omega)
  have HUL := Lib.hid hul
  clear hul
  generalize hkn : k.length = kn at *
  have HKN := Lib.hid hkn
  clear hkn
  go_enter Try.func24, Try.ntmps24
  go_wp2_with (first
    | (go_at_call 33; (with_reducible refine hU.out.mono ?_); rintro e w1 ⟨v1, rfl, ho1, hb1⟩)
    | (at_builtin; (refine list_step (append_row_step w.heap.size rfl (.tmp 6) (.tmp 7) 22 5 rfl Try.underlying22 info_u8 _ (uvO kn) k _ _ _ rfl rfl ho1 (Kd.C_below HC.out hb1) hb1 hb1.size (by have := HUL.out; omega) ?_)); intro v4 w4 ho4 hb4 hx1 hx2; clear hx1 hx2))
  go_ret
  refine ⟨_, rfl, ?_, hb4⟩
  have e : szO k = uvO kn ++ k := by unfold szO; rw [HKN.out]
  rw [e]
  exact ho4

set_option maxHeartbeats 1600000 in
set_option maxRecDepth 100000 in
theorem BatchWrite_calls {w : World} {b2 : Nat} {v2 : Value} {cs2 : List Value} {rs : List Rec} (hr2 : w.ownsRow b2 41 3 v2 rs.length cs2) (hc2 : RecB w (fun _ => True) cs2 rs) (hl : rs.length ≤ 4096) (hw : wt rs ≤ 1048576) :
    Calls Try.prog 11 #[v2] w fun e w' => ∃ v, e = .returned v ∧ w'.ownsRow w.heap.size 5 1 v (bwI rs).length (nums .u8 (bwI rs)) ∧ Below w.heap.size w w' := by
  obtain ⟨A2, c2, rfl⟩ := own_slice hr2
  have R2 := Lib.hid hr2
  have C2 := Lib.hid hc2
  have HWT := Lib.hid hw
  clear hr2 hc2 hw
  generalize hn : rs.length = n at *
  have HN := Lib.hid hn
  clear hn
  go_enter Try.func11, Try.ntmps11
  go_wp2
  go_loopw [3, 4] (fun v3 v4 wr => ∃ i : Nat, v4 = .int .i64 (i : Int) ∧ i ≤ n ∧ Hid (wr.ownsRow w.heap.size 5 1 v3 (bwI (rs.take i)).length (nums .u8 (bwI (rs.take i)))) ∧ Hid (Below w.heap.size w wr)) (fun _ v4 _ => n - (intOf v4).toNat)
  case atStart => exact ⟨0, rfl, Nat.zero_le _, own_nil _ _ _ _, Below.refl _ _⟩
  case round =>
    obtain ⟨i, rfl, hi, HO, HR⟩ := hrel
    by_cases hlt : i < n
    · obtain ⟨d, k, v, Ak, ak, Av, av, h1, h2, h3, h4, h5, h6, h7, h8⟩ := C2.out.at_ i (by rw [HN.out]; exact hlt)
      obtain ⟨g2, q2, e2, _, t2⟩ := own_cell R2.out (by omega)
      injection e2 with e2 _ e2'
      subst e2 e2'
      have x0 : wr.cell? ⟨g2, i * 3, none⟩ = some (.bool d) := pw_cell_below HR.out (t2 _ _ h2)
      have x1 := pw_cell_below HR.out (t2 _ _ h3)
      have x2 := pw_cell_below HR.out (t2 _ _ h4)
      have hmem := mem_wt (List.mem_of_getElem? h1)
      simp only at hmem
      have hkl : k.length ≤ 1048576 := by have := HWT.out; omega
      have hvl : v.length ≤ 1048576 := by have := HWT.out; omega
      have hSK : ∀ W, Below w.heap.size w W → Hid (Calls Try.prog 24 #[.slice Ak k.length ak] W fun e w' => ∃ v, e = .returned v ∧ w'.ownsRow W.heap.size 5 1 v (szO k).length (nums .u8 (szO k)) ∧ Below W.heap.size W w') := fun W hW => Lib.hid (SizedW_calls (Kd.C_below h5 hW) hkl)
      have hSV : ∀ W, Below w.heap.size w W → Hid (Calls Try.prog 24 #[.slice Av v.length av] W fun e w' => ∃ v', e = .returned v' ∧ w'.ownsRow W.heap.size 5 1 v' (szO v).length (nums .u8 (szO v)) ∧ Below W.heap.size W w') := fun W hW => Lib.hid (SizedW_calls (Kd.C_below h7 hW) hvl)
      have HX := Lib.hid (take_next' h1)
      have HLEN : Hid ((bwI (rs.take i)).length ≤ 4194304) := by
        have q1 := wt_take rs i
        have q2 := bwI_len (rs.take i) (by have := HWT.out; omega)
        have q3 : (rs.take i).length ≤ i := List.length_take_le _ _
        have q4 := HWT.out
        exact Lib.hid (by omega)
      have HSZ := Lib.hid (szO_len k hkl).1
      have HSZV := Lib.hid (szO_len v hvl).1
      clear hmem
      cases d
      · go_wp2
        have ne1 := World.new_ne wr ⟨g2, i * 3 + 1, none⟩ x1
        go_region_held3 (fun W => W.cell? ⟨g2, i * 3 + 1, none⟩ = some (.slice Ak k.length ak)) (first | assumption | go_keep)
          (first
            | (refine step_append_cells (W := wr.drew) w.heap.size rfl (.tmp 26) (.tmp 27) 22 5 _ 1 1 rfl Try.underlying22 info_u8 rfl (by decide) (by decide) _ (bwI (rs.take i)).length (nums .u8 (bwI (rs.take i))) [.int .u8 1] rfl rfl rfl (by simp [Value.oneCell']) HO.out.drew HR.out.drew HR.out.size (by have := HLEN.out; omega) ?_; intro v5 w5 ho5 hb5 _ _; have s5 : w5.cell? ⟨g2, i * 3 + 1, none⟩ = some (.slice Ak k.length ak) := pw_cell_below hb5 (t2 _ _ h3); have HB5 := Lib.hid hb5; have HO5 := Lib.hid ho5)
            | (go_at_call 24; refine (hSK _ HB5.out).out.mono ?_; rintro e w6 ⟨v6, rfl, ho6, hb6⟩; obtain ⟨A6, c6, rfl, hC6, _⟩ := own_C ho6; have s6 : w6.cell? ⟨g2, i * 3 + 1, none⟩ = some (.slice Ak k.length ak) := pw_cell_below hb6 s5; have HB6 := Lib.hid (below_then HB5.out HB5.out.size hb6); have HO6 := Lib.hid (pw_own_below HO5.out hb6); have HC6 := Lib.hid hC6)
            | (refine append_row_step w.heap.size rfl (.tmp 28) (.tmp 34) 22 5 rfl Try.underlying22 info_u8 _ (bwI (rs.take i) ++ [1]) (szO k) _ _ _ rfl rfl (by have := HO6.out; rw [nums_snoc] at this; rw [List.length_append, List.length_singleton]; exact this) HC6.out HB6.out HB6.out.size (by have := HLEN.out; have := HSZ.out; simp; omega) ?_; intro v7 w7 ho7 hb7 _ _; have s7 : w7.cell? ⟨g2, i * 3 + 1, none⟩ = some (.slice Ak k.length ak) := pw_cell_below hb7 (t2 _ _ h3)))
        have HB7 := Lib.hid hb7
        have HO7 := Lib.hid ho7
        have y2 : w7.cell? ⟨g2, i * 3 + 2, none⟩ = some (.slice Av v.length av) := pw_cell_below hb7 (t2 _ _ h4)
        clear hb7 ho7 s5 s6 s7 x1 x2
        go_wp2_with (first
          | (go_at_call 24; (with_reducible refine (hSV _ HB7.out).out.mono ?_); rintro e w8 ⟨v8, rfl, ho8, hb8⟩; obtain ⟨A8, c8, rfl, hC8, _⟩ := own_C ho8)
          | (at_builtin; (refine list_step (append_row_step w.heap.size rfl (.tmp 36) (.tmp 42) 22 5 rfl Try.underlying22 info_u8 _ (bwI (rs.take i) ++ [1] ++ szO k) (szO v) _ _ _ rfl rfl (pw_own_below HO7.out hb8) hC8 (below_then HB7.out HB7.out.size hb8) (below_then HB7.out HB7.out.size hb8).size (by have := HLEN.out; have := HSZ.out; have := HSZV.out; simp; omega) ?_)); intro v9 w9 ho9 hb9 hx1 hx2; clear hx1 hx2))
        go_roundw
        case rel => exact ⟨i + 1, by go_num, by omega, Lib.hid (by rw [← HX.out, bwI_snoc]; have e : bwI (rs.take i) ++ bwR (false, k, v) = bwI (rs.take i) ++ [1] ++ szO k ++ szO v := by simp [bwR]
                                                                   rw [e]; exact ho9), Lib.hid hb9⟩
        case measure => simp [intOf]; omega
      · go_wp2
        have ne1 := World.new_ne wr ⟨g2, i * 3 + 1, none⟩ x1
        go_region_held3 (fun W => W.cell? ⟨g2, i * 3 + 1, none⟩ = some (.slice Ak k.length ak)) (first | assumption | go_keep)
          (first
            | (refine step_append_cells (W := wr.drew) w.heap.size rfl (.tmp 16) (.tmp 17) 22 5 _ 1 1 rfl Try.underlying22 info_u8 rfl (by decide) (by decide) _ (bwI (rs.take i)).length (nums .u8 (bwI (rs.take i))) [.int .u8 0] rfl rfl rfl (by simp [Value.oneCell']) HO.out.drew HR.out.drew HR.out.size (by have := HLEN.out; omega) ?_; intro v5 w5 ho5 hb5 _ _; have s5 : w5.cell? ⟨g2, i * 3 + 1, none⟩ = some (.slice Ak k.length ak) := pw_cell_below hb5 (t2 _ _ h3); have HB5 := Lib.hid hb5; have HO5 := Lib.hid ho5)
            | (go_at_call 24; refine (hSK _ HB5.out).out.mono ?_; rintro e w6 ⟨v6, rfl, ho6, hb6⟩; obtain ⟨A6, c6, rfl, hC6, _⟩ := own_C ho6; have s6 : w6.cell? ⟨g2, i * 3 + 1, none⟩ = some (.slice Ak k.length ak) := pw_cell_below hb6 s5; have HB6 := Lib.hid (below_then HB5.out HB5.out.size hb6); have HO6 := Lib.hid (pw_own_below HO5.out hb6); have HC6 := Lib.hid hC6)
            | (refine append_row_step w.heap.size rfl (.tmp 18) (.tmp 24) 22 5 rfl Try.underlying22 info_u8 _ (bwI (rs.take i) ++ [0]) (szO k) _ _ _ rfl rfl (by have := HO6.out; rw [nums_snoc] at this; rw [List.length_append, List.length_singleton]; exact this) HC6.out HB6.out HB6.out.size (by have := HLEN.out; have := HSZ.out; simp; omega) ?_; intro v7 w7 ho7 hb7 _ _; have s7 : w7.cell? ⟨g2, i * 3 + 1, none⟩ = some (.slice Ak k.length ak) := pw_cell_below hb7 (t2 _ _ h3)))
        go_wp2
        go_roundw
        case rel => exact ⟨i + 1, by go_num, by omega, Lib.hid (by rw [← HX.out, bwI_snoc]; have e : bwI (rs.take i) ++ bwR (true, k, v) = bwI (rs.take i) ++ [0] ++ szO k := by simp [bwR]
                                                                   rw [e]; exact ho7), Lib.hid hb7⟩
        case measure => simp [intOf]; omega
    · have : i = n := by omega
      subst this
      have hT : rs.take i = rs := by rw [← HN.out]; exact List.take_length
      rw [hT] at HO
      go_wp2
      go_ret
      exact ⟨_, rfl, HO.out, HR.out⟩

end Go.Proofs.Ytddjenmengipkaa.Bt
