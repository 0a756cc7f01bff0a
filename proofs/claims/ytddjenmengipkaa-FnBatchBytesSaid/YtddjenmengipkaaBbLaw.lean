/- The law FnBatchBytes, walked: it answers true, whatever the records. -/
import Derived.Test.YtddjenmengipkaaBbBnd
import Derived.Lib.SlBytesConst
import Derived.Test.YtddjenmengipkaaOpen
namespace Go.Proofs.Ytddjenmengipkaa.Bt
open Go.RowKit Go.Sort Go.Proofs.YtddjenmengipkaaW.PrintWords Go.Proofs.YtddjenmengipkaaW.PrintMore Go.Proofs.Ytddjenmengipkaa.PFnBatchLoads Go.Proofs.Ytddjenmengipkaa.Cmp Go.Proofs.Ytddjenmengipkaa.Open
set_option linter.unusedVariables false

theorem one_byte {w : World} {g : Nat} {b : Int} {fr : Nat × Nat} {e : TypeId} (h : w.heap[g]? = some (.cells #[.int .u8 b] e fr)) : Kd.C (Kd.int .u8) w (some ⟨g, 0, none⟩) ([b] : List Int).length [b] := by
  refine ints_C ⟨rfl, by simp, fun _ => ⟨_, rfl, fun j hj => ?_⟩⟩
  have : j = 0 := by simp at hj; omega
  subst this
  rw [add_zero, cell_of_row w g 0 _ e fr h]
  rfl

abbrev litW (W : World) : World := (((W.alloc (.cells #[.int .u8 107] 5 (1, 2))).alloc (.cells #[.int .u8 118] 5 (1, 2))).alloc (.cells #[.bool false, .slice (some ⟨W.heap.size, 0, none⟩) 1 1, .slice (some ⟨W.heap.size + 1, 0, none⟩) 1 1] 38))

theorem lit_rec (W : World) : Below W.heap.size W (litW W) ∧ Kd.C kR (litW W) (some ⟨W.heap.size + 1 + 1, 0, none⟩) 1 [(false, [107], [118])] := by
  have b1 := below_alloc (Below.refl W.heap.size W) (.cells #[.int .u8 107] 5 (1, 2))
  have b2 := below_alloc (Below.refl (W.alloc (.cells #[.int .u8 107] 5 (1, 2))).heap.size (W.alloc (.cells #[.int .u8 107] 5 (1, 2)))) (.cells #[.int .u8 118] 5 (1, 2))
  have b3 := below_alloc (Below.refl ((W.alloc (.cells #[.int .u8 107] 5 (1, 2))).alloc (.cells #[.int .u8 118] 5 (1, 2))).heap.size ((W.alloc (.cells #[.int .u8 107] 5 (1, 2))).alloc (.cells #[.int .u8 118] 5 (1, 2)))) (.cells #[.bool false, .slice (some ⟨W.heap.size, 0, none⟩) 1 1, .slice (some ⟨W.heap.size + 1, 0, none⟩) 1 1] 38)
  have n1 := blk_new W (.cells #[.int .u8 107] 5 (1, 2))
  have n2 := blk_new (W.alloc (.cells #[.int .u8 107] 5 (1, 2))) (.cells #[.int .u8 118] 5 (1, 2))
  have n3 := blk_new ((W.alloc (.cells #[.int .u8 107] 5 (1, 2))).alloc (.cells #[.int .u8 118] 5 (1, 2))) (.cells #[.bool false, .slice (some ⟨W.heap.size, 0, none⟩) 1 1, .slice (some ⟨W.heap.size + 1, 0, none⟩) 1 1] 38)
  simp only [World.size_alloc] at n2 n3
  have m1 := (b3.block W.heap.size (by simp; omega)).trans ((b2.block W.heap.size (by simp)).trans n1)
  have m2 := (b3.block (W.heap.size + 1) (by simp)).trans n2
  refine ⟨below_then (below_then b1 b1.size b2) (Nat.le_trans b1.size b2.size) b3, rfl, by decide, fun _ => ⟨_, rfl, fun j p hj => ?_⟩⟩
  have hj0 : j = 0 := by
    cases j with
    | zero => rfl
    | succ j => simp at hj
  subst hj0
  simp at hj
  subst hj
  refine ⟨[.bool false, .slice (some ⟨W.heap.size, 0, none⟩) 1 1, .slice (some ⟨W.heap.size + 1, 0, none⟩) 1 1], rfl, ⟨[.bool false], _, rfl, rfl, ⟨[.slice (some ⟨W.heap.size, 0, none⟩) 1 1], _, rfl, ⟨_, 1, rfl, by decide, one_byte m1⟩, ⟨_, 1, rfl, by decide, one_byte m2⟩⟩⟩, fun i u hi => ?_⟩
  have hadd : (⟨W.heap.size + 1 + 1, 0, none⟩ : Addr).add (0 * kR.sz + i) = ⟨W.heap.size + 1 + 1, i, none⟩ := by
    rw [Nat.zero_mul, Nat.zero_add]
    unfold Addr.add
    split
    · rename_i e; subst e; rfl
    · simp
  rw [hadd, cell_of_row _ _ i _ _ _ n3]
  simpa using hi

set_option maxHeartbeats 3200000 in
set_option maxRecDepth 100000 in
theorem bytes_walk (A : Option Addr) (c : Nat) (rs : List Rec) (w : World) (h : Kd.C kR w A rs.length rs) (hb : ∀ r ∈ rs, Byt r.2.1 ∧ Byt r.2.2) :
    Calls Try.prog 4 #[.slice A rs.length c] w fun e w' => e = .returned (.bool true) ∧ Below w.heap.size w w' := by
  have HC := Lib.hid h
  have HBY := Lib.hid hb
  have hF := Lib.hid (fits5_calls (c := c) h)
  clear h hb
  generalize hn : rs.length = n at *
  have HN := Lib.hid hn
  clear hn
  have kc := fun (w : World) (C : Array Value) (n c : Nat) => Lib.run_convert_bytes_const (P := Try.prog) w 22 5 C n c Try.underlying22 Try.underlying5
  go_enter Try.func4, Try.ntmps4
  go_wp2_with fail
  refine hF.out.mono ?_
  rintro e w1 ⟨⟨b, rfl, hfit⟩, hb1⟩
  have B1 := Lib.hid hb1
  clear hb1 hF
  cases b
  · go_wp2_with fail
    go_ret
    exact ⟨rfl, B1.out⟩
  · have HFIT := Lib.hid (hfit rfl)
    have hFew := Lib.hid (fewRecs_calls (c := c) (w := w1) (A := A) (rs := rs) (by rw [HN.out]; exact Kd.C_below HC.out B1.out) HFIT.out)
    rw [HN.out] at hFew
    clear hfit
    by_cases hsm : (wt rs : Int) ≤ 1048576 ∧ (n : Int) ≤ 4096
    · rw [decide_eq_true hsm] at hFew
      have hwt : wt rs ≤ 1048576 := by omega
      have hn4 : n ≤ 4096 := by omega
      clear hsm
      go_wp2_with fail
      refine hFew.out.mono ?_
      rintro e w2 ⟨rfl, hb2⟩
      have B2 := Lib.hid (below_then B1.out B1.out.size hb2)
      clear hb2 hFew
      go_wp2_with fail
      have hRecs : ∀ W, Below w.heap.size w W → Hid (Calls Try.prog 12 #[.slice A n c] W fun e w' => (∃ v cs, e = .returned v ∧ w'.ownsRow W.heap.size 41 3 v n cs ∧ RecB w' (fun _ => True) cs rs) ∧ Below W.heap.size W w') := fun W hW => Lib.hid (by
        have := recs_calls (c := c) (w := W) (A := A) (rs := rs) (by rw [HN.out]; exact Kd.C_below HC.out hW) (by rw [HN.out]; exact hn4)
        rw [HN.out] at this
        exact this)
      refine (hRecs _ B2.out).out.mono ?_
      rintro e w3 ⟨⟨v3, cs3, rfl, ho3, hc3⟩, hb3⟩
      have B3 := Lib.hid (below_then B2.out B2.out.size hb3)
      have hBW := Lib.hid (BatchWrite_calls (rs := rs) (by rw [HN.out]; exact ho3) hc3 (by rw [HN.out]; exact hn4) hwt)
      clear ho3 hc3 hb3
      go_wp2_with fail
      refine hBW.out.mono ?_
      rintro e w4 ⟨v4, rfl, ho4, hb4⟩
      have B4 := Lib.hid (below_then B3.out B3.out.size hb4)
      obtain ⟨A4, c4, rfl, hC4, hc4⟩ := own_C ho4
      have HC4 := Lib.hid hC4
      have HL4 := Lib.hid hc4
      clear ho4 hb4 hBW hC4 hc4
      go_wp2_with fail
      have hBD := Lib.hid (BatchDump_calls (c := c) (w := w4) (A := A) (rs := rs) (by rw [HN.out]; exact Kd.C_below HC.out B4.out) hwt (by rw [HN.out]; exact hn4))
      rw [HN.out] at hBD
      refine hBD.out.mono ?_
      rintro e w5 ⟨hb5, A5, c5, rfl, hC5, hc5⟩
      rw [HN.out]
      have B5 := Lib.hid (below_then B4.out B4.out.size hb5)
      have hSame := Lib.hid (same_calls hC5 hc5 (Kd.C_below HC4.out hb5) HL4.out)
      have HC5 := Lib.hid (Kd.C_below HC4.out hb5)
      clear hb5 hC5 hc5 hBD
      go_wp2_with fail
      refine hSame.out.mono ?_
      rintro e w6 ⟨rfl, hb6⟩
      have B6 := Lib.hid (below_then B5.out B5.out.size hb6)
      have hC6 := Kd.C_below HC5.out hb6
      have HC6 := Lib.hid hC6
      have hHi := Lib.hid (high_calls (c := c4) hC6)
      clear hb6 hSame hC6
      cases hf : farI 0 (bwI rs) with
      | true =>
        rw [hf] at hHi
        go_wp2_with fail
        refine hHi.out.mono ?_
        rintro e w7 ⟨rfl, hb7⟩
        go_wp2_with fail
        go_ret
        exact ⟨rfl, below_then B6.out B6.out.size hb7⟩
      | false =>
        rw [hf] at hHi
        go_wp2_with fail
        refine hHi.out.mono ?_
        rintro e w7 ⟨rfl, hb7⟩
        have B7 := Lib.hid (below_then B6.out B6.out.size hb7)
        have hlen : (bwI rs).length ≤ 4194304 := by have := bwI_len rs hwt; rw [HN.out] at this; omega
        have hBL := BatchLoad_calls (c := c4) (Kd.C_below HC6.out hb7) (bwI_byt HBY.out) hlen hf
        rw [rdI_out rs _ (Nat.le_refl _)] at hBL
        have HBL := Lib.hid hBL
        clear hb7 hHi hBL hf
        go_wp2_with fail
        refine HBL.out.mono ?_
        rintro e w8 ⟨hb8, v8, cs8, rfl, ho8, hc8⟩
        have B8 := Lib.hid (below_then B7.out B7.out.size hb8)
        have HO8 := Lib.hid ho8
        have HC8 := Lib.hid hc8
        clear hb8 ho8 hc8 HBL
        rw [List.length_map, HN.out]
        have kc2 := kc (w8.alloc (.cells #[.int .u8 107] 5 (1, 2))) #[.int .u8 118] 1 1
        rw [World.size_alloc] at kc2
        have hlit := Lib.hid (lit_rec w8)
        have hLD := BatchDump_calls (c := 1) (w := litW w8) (rs := [(false, [107], [118])]) hlit.out.2 (by decide) (by decide)
        have e5 : (bwI [(false, [107], [118])]).length = 5 := by
          show (bwR (false, [107], [118]) ++ []).length = 5
          simp [bwR, szO, uvO_lt]
        have HLD : Hid (Calls Try.prog 13 #[.slice (some ⟨w8.heap.size + 1 + 1, 0, none⟩) 1 1] (litW w8) fun e w' => Below (litW w8).heap.size (litW w8) w' ∧ ∃ A c, e = .returned (.tuple #[.slice A 5 c, .int .i64 1])) := Lib.hid (hLD.mono (by
          rintro e w' ⟨hb, A, c, rfl, _⟩
          exact ⟨hb, A, c, by rw [e5]; rfl⟩))
        clear hLD e5
        go_wp2_with fail
        refine HLD.out.mono ?_
        rintro e w9 ⟨hb9, A9, c9, rfl⟩
        have hb89 := below_then hlit.out.1 hlit.out.1.size hb9
        have B9 := Lib.hid (below_then B8.out B8.out.size hb89)
        have HO9 := Lib.hid (pw_own_below HO8.out hb89)
        have HC9 := Lib.hid (HC8.out.later hb89)
        clear hb9 hb89 HLD hlit kc2 kc
        go_wp2_with fail
        refine (hRecs _ B9.out).out.mono ?_
        rintro e w10 ⟨⟨v10, cs10, rfl, ho10, hc10⟩, hb10⟩
        have B10 := Lib.hid (below_then B9.out B9.out.size hb10)
        have hS := Lib.hid (sameNrm_calls (rs := rs) (by have := pw_own_below HO9.out hb10; rw [List.length_map] at this; exact this) (HC9.out.later hb10) (by rw [HN.out]; exact ho10) hc10 (by rw [HN.out]; omega))
        clear ho10 hc10 hb10
        go_wp2_with fail
        refine hS.out.mono ?_
        rintro e w11 ⟨rfl, hb11⟩
        have B11 := Lib.hid (below_then B10.out B10.out.size hb11)
        clear hb11 hS
        go_wp2_with fail
        go_ret
        exact ⟨rfl, B11.out⟩
    · rw [decide_eq_false hsm] at hFew
      go_wp2_with fail
      refine hFew.out.mono ?_
      rintro e w2 ⟨rfl, hb2⟩
      go_wp2_with fail
      go_ret
      exact ⟨rfl, below_then B1.out B1.out.size hb2⟩

theorem bytes_opens : Opens Try.prog 22 (Kd.slice 5 (Kd.int .u8)) (fun l => ∀ z ∈ l, (Lit.int .u8 z).wf = true) := opens_slice Try.underlying22 (by kernel_rfl) (opens_int Try.underlying5)

set_option maxRecDepth 100000 in
theorem rec_opens : Opens Try.prog 38 kR (fun x => True ∧ (∀ z ∈ x.2.1, (Lit.int .u8 z).wf = true) ∧ (∀ z ∈ x.2.2, (Lit.int .u8 z).wf = true)) :=
  (opens_struct (ok := _) Try.underlying38 (by kernel_rfl) (opensFs_cons (ok := fun _ => True) (ok' := _) (d := Kd.bool) (d' := _) rfl (by kernel_rfl) (opens_bool Try.underlying4) (opensFs_cons (ok := _) (ok' := _) (d := _) (d' := _) rfl (by kernel_rfl) bytes_opens (opensFs_last rfl (by kernel_rfl) bytes_opens)))).imp fun a h => h

abbrev RecsK : Kd (List Rec) := Kd.slice 38 kR

theorem recs_opens : Opens Try.prog 27 RecsK (fun xs => ∀ x ∈ xs, True ∧ (∀ z ∈ x.2.1, (Lit.int .u8 z).wf = true) ∧ (∀ z ∈ x.2.2, (Lit.int .u8 z).wf = true)) := opens_slice Try.underlying27 (by kernel_rfl) rec_opens

theorem bytes_row (A : Option Addr) (n c : Nat) (rs : List Rec) (w : World) (h : RecsK.K w rs [.slice A n c]) (ho : ∀ x ∈ rs, True ∧ (∀ z ∈ x.2.1, (Lit.int .u8 z).wf = true) ∧ (∀ z ∈ x.2.2, (Lit.int .u8 z).wf = true)) :
    Calls Try.prog 4 #[.slice A n c] w fun x w' => x = .returned (.bool true) ∧ Below w.heap.size w w' := by
  obtain ⟨A', c', he, _, hC⟩ := h
  injection he with he _
  injection he with e1 e2 e3
  subst e1 e2 e3
  exact bytes_walk A c rs w hC (fun r hr => ⟨byt_wf (ho r hr).2.1, byt_wf (ho r hr).2.2⟩)

end Go.Proofs.Ytddjenmengipkaa.Bt
