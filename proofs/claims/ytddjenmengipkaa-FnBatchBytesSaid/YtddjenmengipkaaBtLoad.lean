/- Batches: goleveldb's Batch.decode and Batch.Load. -/
import Derived.Test.YtddjenmengipkaaBtDec
namespace Go.Proofs.Ytddjenmengipkaa.Bt
open Go.RowKit Go.Proofs.YtddjenmengipkaaW.PrintWords Go.Proofs.YtddjenmengipkaaW.PrintMore Go.Proofs.Ytddjenmengipkaa.PFnBatchLoads Go.Proofs.Ytddjenmengipkaa.Cmp
set_option linter.unusedVariables false

set_option maxHeartbeats 1600000 in
set_option maxRecDepth 100000 in
theorem bdecode_calls {w : World} {base g : Nat} {v0 : Value} {il : Int} {A : Option Addr} {c : Nat} {l : List Int} (hg : w.heap[g]? = some (.cells #[v0, .slice none 0 0, .int .i64 il] 45 (0, 0))) (hat : base ≤ g) (h : Kd.C (Kd.int .u8) w A l.length l) (h1 : ∀ a, A = some a → a.block < w.heap.size ∧ a.block ≠ g) (hc : l.length ≤ c) (hb : Byt l) (hl : l.length ≤ 4294967296) (hf : farI 0 l = false) :
    Calls Try.prog 30 #[.pointer (some ⟨g, 0, none⟩), .slice A l.length c, .int .i64 (-1)] w (DecTold base g (.slice A l.length c) A l (rdI l.length l) w) := by
  have hlt := blk_lt hg
  have HC := Lib.hid h
  have H1 := Lib.hid h1
  have HBY := Lib.hid (show Byt l ∧ farI 0 l = false from ⟨hb, hf⟩)
  have HL := Lib.hid (show l.length ≤ c ∧ l.length ≤ 4294967296 from ⟨hc, hl⟩)
  have f0 := blk_frozen hg 0
  have e0 : w.cell? ⟨g, 0, none⟩ = some v0 := (blk_cell hg 0).trans rfl
  have hne : g ≠ w.heap.size := Nat.ne_of_lt hlt
  have hmf : ∀ (fn : Fn) (first cap : Array Value) (w : World), (Instr.makeFunc fn first cap).run Try.prog w = .ok (.func fn first cap) w := fun _ _ _ _ => rfl
  have HG := Lib.hid hg
  clear h h1 hc hb hl hf hg
  generalize hn : l.length = n at *
  have HN := Lib.hid hn
  clear hn
  go_enter Try.func30, Try.ntmps30
  go_wp2
  have hS : (w.setCell ⟨g, 0, none⟩ (.slice A n c)).heap.size = w.heap.size := by simp
  have hbS := below_alloc (Below.refl (w.setCell ⟨g, 0, none⟩ (.slice A n c)).heap.size (w.setCell ⟨g, 0, none⟩ (.slice A n c))) (.cells #[.pointer (some ⟨g, 0, none⟩)] 42)
  have hkS := (blk_set HG.out 0 (.slice A n c)).trans (show _ = some (Obj.cells #[.slice A n c, .slice none 0 0, .int .i64 il] 45 (0, 0)) from rfl)
  have hk2 := (hbS.block g (blk_lt hkS)).trans hkS
  have hv2 := blk_new (w.setCell ⟨g, 0, none⟩ (.slice A n c)) (.cells #[.pointer (some ⟨g, 0, none⟩)] 42)
  rw [hS] at hv2
  have hC2 := Kd.C_below (C_same (w' := w.setCell ⟨g, 0, none⟩ (.slice A n c)) HC.out (fun a ha => Below.heap_setCell _ _ _ _ (H1.out a ha).2)) hbS
  have hlow2 : Below base w ((w.setCell ⟨g, 0, none⟩ (.slice A n c)).alloc (.cells #[.pointer (some ⟨g, 0, none⟩)] 42)) := ((Below.refl base w).setCell (p := ⟨g, 0, none⟩) hat _).alloc (by simp; omega) _
  clear hkS hS hbS
  refine still_tail 8 (by kernel_rfl) (by kernel_rfl) ?_
  intro W3 hW3
  have h3 : W3.heap = ((w.setCell ⟨g, 0, none⟩ (.slice A n c)).alloc (.cells #[.pointer (some ⟨g, 0, none⟩)] 42)).heap := by rw [hW3]; rfl
  have k3 : W3.heap[g]? = _ := (congrArg (fun h => h[g]?) h3).trans hk2
  have v3 : W3.heap[w.heap.size]? = _ := (congrArg (fun h => h[w.heap.size]?) h3).trans hv2
  have b3 : Below base w W3 := by rw [hW3]; exact hlow2.drew
  have c3 : Hid (Kd.C (Kd.int .u8) W3 A n l) := by
    exact Lib.hid (C_same hC2 (fun a ha => by rw [h3]))
  have z3 : W3.heap.size = w.heap.size + 1 := by rw [h3]; simp
  clear hW3 h3 hk2 hv2 hlow2 hC2 f0 e0
  have B3 := Lib.hid b3
  have K3 := Lib.hid k3
  have V3 := Lib.hid v3
  have Z3 := Lib.hid z3
  have y1 := blk_cell k3 1
  have y2 := blk_cell k3 2
  have g1 := blk_frozen k3 1
  have g2 := blk_frozen k3 2
  have yv := blk_cell v3 0
  simp only [List.getElem?_toArray, List.getElem?_cons_zero, List.getElem?_cons_succ] at y1 y2 yv
  clear b3 k3 v3 z3
  simp only [List.take_succ_cons, List.take_zero, List.drop_succ_cons, List.drop_zero]
  repeat still_step
  refine wpStill_nil ?_
  have k4 := (blk_set (blk_set K3.out 1 (.slice none 0 0)) 2 (.int .i64 0)).trans (show _ = some (Obj.cells #[.slice A n c, .slice none 0 0, .int .i64 0] 45 (0, 0)) from rfl)
  have v4 := blk_far (blk_far V3.out (p := ⟨g, 1, none⟩) (Ne.symm hne) (.slice none 0 0)) (p := ⟨g, 2, none⟩) (Ne.symm hne) (.int .i64 0)
  have c4 := C_same c3.out (w' := (W3.setCell ⟨g, 1, none⟩ (.slice none 0 0)).setCell ⟨g, 2, none⟩ (.int .i64 0)) (fun a ha => (Below.heap_setCell _ _ _ _ (H1.out a ha).2).trans (Below.heap_setCell _ _ _ _ (H1.out a ha).2))
  have b4 := (B3.out.setCell (p := ⟨g, 1, none⟩) hat (.slice none 0 0)).setCell (p := ⟨g, 2, none⟩) hat (.int .i64 0)
  have z4 : ((W3.setCell ⟨g, 1, none⟩ (.slice none 0 0)).setCell ⟨g, 2, none⟩ (.int .i64 0)).heap.size = w.heap.size + 1 := by simp [Z3.out]
  have K4 := Lib.hid k4
  have V4 := Lib.hid v4
  have C4 := Lib.hid c4
  have B4 := Lib.hid b4
  have Z4 := Lib.hid z4
  clear k4 v4 c4 b4 z4
  have hd : Hid (Calls Try.prog 35 #[.slice A n c, .func (.func 36) #[] #[.pointer (some ⟨w.heap.size, 0, none⟩)]] ((W3.setCell ⟨g, 1, none⟩ (.slice none 0 0)).setCell ⟨g, 2, none⟩ (.int .i64 0)) (DecTold base g (.slice A n c) A l (rdI n l) ((W3.setCell ⟨g, 1, none⟩ (.slice none 0 0)).setCell ⟨g, 2, none⟩ (.int .i64 0)))) := by
    have := decode_calls (c := c) (l := l) (A := A) (vd := .slice A n c) (vi := .slice none 0 0) (base := base) (by rw [HN.out]; exact C4.out) (fun a ha => ⟨by rw [Z4.out]; exact Nat.lt_succ_of_lt (H1.out a ha).1, (H1.out a ha).2, by simp [Value.ownBlock]⟩) (by rw [Z4.out]; omega) (by rw [HN.out]; exact HL.out.1) HBY.out.1 (by rw [HN.out]; exact HL.out.2) HBY.out.2 ⟨⟨0, K4.out⟩, own_nil _ _ _ _, hat⟩ V4.out
    rw [HN.out] at this
    exact this
  generalize hR : rdI n l = R at *
  clear hR
  cases R with
  | none =>
    go_wp2_with (go_at_call 35; (with_reducible refine hd.out.mono ?_); rintro e w5 ⟨hb5, ⟨t5, v5, rfl⟩ | ⟨tc, vc, rfl⟩⟩)
    · go_ret
      exact ⟨B4.out.trans hb5, Or.inl ⟨_, _, rfl⟩⟩
    · exact ⟨rfl, B4.out.trans hb5, Or.inr ⟨_, _, rfl⟩⟩
  | some rs =>
    go_wp2_with (go_at_call 35; (with_reducible refine hd.out.mono ?_); rintro e w5 ⟨hb5, rfl, hbat, hdat⟩)
    go_ret
    exact ⟨B4.out.trans hb5, rfl, hbat, hdat⟩

set_option maxHeartbeats 400000 in
set_option maxRecDepth 100000 in
theorem Load_calls {w : World} {base g : Nat} {v0 : Value} {il : Int} {A : Option Addr} {c : Nat} {l : List Int} (hg : w.heap[g]? = some (.cells #[v0, .slice none 0 0, .int .i64 il] 45 (0, 0))) (hat : base ≤ g) (h : Kd.C (Kd.int .u8) w A l.length l) (h1 : ∀ a, A = some a → a.block < w.heap.size ∧ a.block ≠ g) (hc : l.length ≤ c) (hb : Byt l) (hl : l.length ≤ 4294967296) (hf : farI 0 l = false) :
    Calls Try.prog 18 #[.pointer (some ⟨g, 0, none⟩), .slice A l.length c] w (DecTold base g (.slice A l.length c) A l (rdI l.length l) w) := by
  have hd := Lib.hid (bdecode_calls hg hat h h1 hc hb hl hf)
  clear hg h h1 hc hb hl hf
  generalize rdI l.length l = R at *
  generalize hn : l.length = n at *
  have HN := Lib.hid hn
  clear hn
  go_enter Try.func18, Try.ntmps18
  cases R with
  | none =>
    go_wp2_with (go_at_call 30; (with_reducible refine hd.out.mono ?_); rintro e w5 ⟨hb5, ⟨t5, v5, rfl⟩ | ⟨tc, vc, rfl⟩⟩)
    · go_ret
      exact ⟨hb5, Or.inl ⟨_, _, rfl⟩⟩
    · exact ⟨rfl, hb5, Or.inr ⟨_, _, rfl⟩⟩
  | some rs =>
    go_wp2_with (go_at_call 30; (with_reducible refine hd.out.mono ?_); rintro e w5 ⟨hb5, rfl, hbat, hdat⟩)
    go_ret
    exact ⟨hb5, rfl, hbat, hdat⟩

end Go.Proofs.Ytddjenmengipkaa.Bt
