/- The law FnBatchLoads, walked: it answers true, whatever the bytes. -/
import Derived.Test.YtddjenmengipkaaBtSame
namespace Go.Proofs.Ytddjenmengipkaa.Bt
open Go.RowKit Go.Sort Go.Proofs.YtddjenmengipkaaW.PrintWords Go.Proofs.YtddjenmengipkaaW.PrintMore Go.Proofs.Ytddjenmengipkaa.PFnBatchLoads Go.Proofs.Ytddjenmengipkaa.Cmp
set_option linter.unusedVariables false

theorem lit_C (W : World) (xs : List Int) (e : TypeId) (hm : xs.length ≤ 9223372036854775807) : Kd.C (Kd.int .u8) (W.alloc (.cells (nums .u8 xs).toArray e)) (some ⟨W.heap.size, 0, none⟩) xs.length xs := by
  obtain ⟨A, c, hv, hC, _⟩ := own_C (own_lit W W.heap.size e .u8 xs (Nat.le_refl _) hm)
  injection hv with e1 _ _
  rw [e1]
  exact hC

theorem RecW.elder {w0 w : World} {cs : List Value} {rs : List Rec} (h : RecW w0 cs rs) (hb : Below w0.heap.size w0 w) : RecW w cs rs := by
  induction h with
  | nil => exact .nil
  | step _ h1 h2 ih => exact .step ih (h1.below hb) (h2.below hb)

theorem RecB.now {w w1 : World} {cs : List Value} {rs : List Rec} (h : RecB w (fun _ => True) cs rs) (hb : Below w.heap.size w w1) : RecB w1 (fun _ => True) cs rs := h.later hb

set_option maxHeartbeats 1600000 in
set_option maxRecDepth 100000 in
theorem loads_walk (A : Option Addr) (c : Nat) (l : List Int) (w : World) (h : Kd.C (Kd.int .u8) w A l.length l) (hc : l.length ≤ c) (hb : Byt l) (hm : l.length ≤ 140737488355328) :
    Calls Try.prog 3 #[.slice A l.length c] w fun e w' => e = .returned (.bool true) ∧ Below w.heap.size w w' := by
  have HC := Lib.hid h
  have HBY := Lib.hid hb
  clear h hb
  by_cases hbig : 1048576 < l.length
  · generalize hn : l.length = n at *
    have HN := Lib.hid hn
    clear hn
    go_enter Try.func3, Try.ntmps3
    by_cases hbig2 : 2147483647 < n
    · go_wp2_with fail
      go_ret
      exact ⟨rfl, Below.refl _ _⟩
    · go_wp2_with fail
      go_ret
      exact ⟨rfl, Below.refl _ _⟩
  · have hh := high_calls (c := c) HC.out
    have HH := Lib.hid hh
    clear hh
    cases hf : farI 0 l with
    | true =>
      rw [hf] at HH
      clear hf
      generalize hn : l.length = n at *
      have HN := Lib.hid hn
      clear hn
      go_enter Try.func3, Try.ntmps3
      go_wp2_with (go_at_call 5; (with_reducible refine HH.out.mono ?_); rintro e w1 ⟨rfl, hb1⟩)
      go_ret
      exact ⟨rfl, hb1⟩
    | false =>
      rw [hf] at HH
      have HF := Lib.hid hf
      have hl4 : l.length ≤ 4194304 := by omega
      have HR : ∀ W, Below w.heap.size w W → Hid (Calls Try.prog 6 #[.slice A l.length c] W (RdTold w W (rdI l.length l))) := fun W hW => Lib.hid (BatchRead_calls HC.out hW hc HBY.out (by omega) HF.out)
      have HD : ∀ W, Below w.heap.size w W → Hid (Calls Try.prog 7 #[.slice A l.length c] W (BlTold W (rdI l.length l))) := fun W hW => Lib.hid (BatchLoad_calls (Kd.C_below HC.out hW) HBY.out hl4 HF.out)
      have HL : ∀ W : World, Hid (Calls Try.prog 7 #[.slice (some ⟨W.heap.size, 0, none⟩) 5 5] (W.alloc (.cells #[.int .u8 1, .int .u8 1, .int .u8 107, .int .u8 1, .int .u8 118] 5)) fun e w' => Below W.heap.size W w' ∧ ∃ vl, e = .returned (.tuple #[vl, .int .i64 1, .bool true])) := fun W => Lib.hid (by
        have h5 := lit_C W [1, 1, 107, 1, 118] 5 (by decide)
        have := BatchLoad_calls (c := 5) h5 (by intro x hx; simp at hx; omega) (by decide) (by decide)
        refine this.mono ?_
        have e5 : rdI ([1, 1, 107, 1, 118] : List Int).length [1, 1, 107, 1, 118] = some [(false, [107], [118])] := by decide
        rw [e5]
        rintro e w' ⟨hb, vl, cs, rfl, _⟩
        have hA := below_alloc (Below.refl W.heap.size W) (.cells (nums .u8 [1, 1, 107, 1, 118]).toArray 5)
        exact ⟨below_then hA hA.size hb, vl, rfl⟩)
      have hrl : ∀ rs, rdI l.length l = some rs → rs.length ≤ l.length := fun rs h => rdI_len h
      have HRL := Lib.hid hrl
      clear hf hrl
      generalize rdI l.length l = R at *
      generalize hn : l.length = n at *
      have HN := Lib.hid hn
      clear hn
      go_enter Try.func3, Try.ntmps3
      go_wp2_with (go_at_call 5; (with_reducible refine HH.out.mono ?_); rintro e w1 ⟨rfl, hb1⟩)
      refine (HR _ hb1).out.mono ?_
      cases R with
      | none =>
        rintro e w2 ⟨hb2, rfl⟩
        have hB2 := below_then hb1 hb1.size hb2
        go_wp2_with fail
        refine (HD _ hB2).out.mono ?_
        rintro e w3 ⟨hb3, rfl⟩
        have hB3 := below_then hB2 hB2.size hb3
        go_wp2_with fail
        refine (HL _).out.mono ?_
        rintro e w4 ⟨hb4, v4, rfl⟩
        have hB4 := Lib.hid (below_then hB3 hB3.size hb4)
        clear hb1 hb2 hb3 hb4 hB2 hB3 HL HD HR
        go_wp2_with fail
        go_ret
        exact ⟨rfl, hB4.out⟩
      | some rs =>
        have hrs := HRL.out rs rfl
        rintro e w2 ⟨hb2, v2, cs2, rfl, ho2, hr2⟩
        obtain ⟨A2, c2, rfl⟩ := own_slice ho2
        have hB2 := below_then hb1 hb1.size hb2
        go_wp2_with fail
        refine (HD _ hB2).out.mono ?_
        rintro e w3 ⟨hb3, v3, cs3, rfl, ho3, hr3⟩
        have hB3 := below_then hB2 hB2.size hb3
        go_wp2_with fail
        refine (HL _).out.mono ?_
        rintro e w4 ⟨hb4, v4, rfl⟩
        have hB4 := Lib.hid (below_then hB3 hB3.size hb4)
        have hS := Lib.hid (sameRecs_calls (pw_own_below ho3 hb4) (hr3.later hb4) (pw_own_below (pw_own_below ho2 hb3) hb4) ((hr2.elder hB2).recB.later hb3 |>.later hb4) (by omega))
        clear hb1 hb2 hb3 hb4 hB2 hB3 HL HD HR ho2 hr2 ho3 hr3
        go_wp2_with (go_at_call 8; (with_reducible refine hS.out.mono ?_); rintro e w5 ⟨rfl, hb5⟩)
        go_ret
        exact ⟨rfl, below_then hB4.out hB4.out.size hb5⟩

end Go.Proofs.Ytddjenmengipkaa.Bt
