/- util.Buffer: a fresh one gives its bytes out. -/
import Derived.Test.YtpdibidfjhjoeaaBlGen
import Derived.Laws.IdiomCopy
namespace Go.Proofs.Ytpdibidfjhjoeaa.Bl
open Go.RowKit Go.Proofs.YtpdibidfjhjoeaaW.PrintWords Go.Proofs.YtpdibidfjhjoeaaW.PrintMore Go.Proofs.Ytpdibidfjhjoeaa.Cmp
set_option linter.unusedVariables false

def zbuf : Array Value := #[.slice none 0 0, .int .i64 0] ++ Array.replicate 64 (.int .u8 0)

set_option maxHeartbeats 400000 in
set_option maxRecDepth 100000 in
theorem Len_calls {w : World} {b n c : Nat} {A : Option Addr} (h0 : w.cell? ⟨b, 0, none⟩ = some (.slice A n c)) (h1 : w.cell? ⟨b, 1, none⟩ = some (.int .i64 0)) (hn : n ≤ 4294967296) :
    Calls Try.prog 49 #[.pointer (some ⟨b, 0, none⟩)] w fun e w' => e = .returned (.int .i64 n) ∧ Below w.heap.size w w' := by
  go_enter Try.func49, Try.ntmps49
  go_wp2
  go_quiet (fail)
  go_wp2
  go_ret
  exact ⟨rfl, pw_below_drewN (Below.refl _ _) _⟩

theorem nil_eq (wx : World) (a : Option Addr) (n c : Nat) : (binOp .eql 23 (.slice a n c) (.slice none 0 0)).run Try.prog wx = .ok (.bool a.isNone) wx := Lib.run_eql_slice_nil wx 23 5 a n c 0 0 Try.underlying23

set_option maxHeartbeats 800000 in
set_option maxRecDepth 100000 in
theorem grow_small {w : World} {b : Nat} {n : Nat} (hb : w.heap[b]? = some (.cells zbuf 39 (0, 0))) (h1 : 1 ≤ n) (h2 : n ≤ 64) :
    Calls Try.prog 48 #[.pointer (some ⟨b, 0, none⟩), .int .i64 n] w fun e w' => e = .returned (.int .i64 0) ∧ w'.heap[b]? = some (.cells (zbuf.setIfInBounds 0 (.slice (some ⟨b, 2, none⟩) n 64)) 39 (0, 0)) ∧ Below b w w' := by
  have c0 : w.cell? ⟨b, 0, none⟩ = some (.slice none 0 0) := blk_cell hb 0
  have c1 : w.cell? ⟨b, 1, none⟩ = some (.int .i64 0) := blk_cell hb 1
  have hnil := nil_eq
  have hL := fun (w1 : World) (hb1 : Below w.heap.size w w1) => Len_calls (pw_cell_below hb1 c0) (pw_cell_below hb1 c1) (by omega)
  go_enter Try.func48, Try.ntmps48
  go_wp2_with fail
  refine (hL w (Below.refl _ _)).mono ?_
  rintro e w1 ⟨rfl, hb1⟩
  replace c0 := pw_cell_below hb1 c0
  replace c1 := pw_cell_below hb1 c1
  have hk := blk_below hb hb1
  have f0 := blk_frozen hk 0
  have f1 := blk_frozen hk 1
  go_wp2
  go_quiet (fail)
  go_wp2
  have hk2 := blk_set (blk_set (blk_drewN hk nq) 0 (Value.slice (some ⟨b, 2, none⟩) 64 64)) 1 (Value.int IntKind.i64 0)
  have hB2 : Below b w (((w1.drewN nq).setCell { block := b, off := 0 } (Value.slice (some { block := b, off := 2 }) 64 64)).setCell { block := b, off := 1 } (Value.int IntKind.i64 0)) :=
    Below.setCell (Below.setCell (pw_below_drewN (hb1.mono (Nat.le_of_lt (blk_lt hb))) _) (Nat.le_refl _) _) (Nat.le_refl _) _
  generalize ((w1.drewN nq).setCell { block := b, off := 0 } (Value.slice (some { block := b, off := 2 }) 64 64)).setCell { block := b, off := 1 } (Value.int IntKind.i64 0) = W2 at *
  have ez : (zbuf.setIfInBounds 0 (Value.slice (some ⟨b, 2, none⟩) 64 64)).setIfInBounds 1 (Value.int IntKind.i64 0) = zbuf.setIfInBounds 0 (Value.slice (some ⟨b, 2, none⟩) 64 64) := by rfl
  rw [ez] at hk2
  clear c0 c1 hL hb1 hk f0 f1 ez
  have g1 : (0 : Int) ≤ (n : Int) := by omega
  have g2 : (n : Int) ≤ 64 := by omega
  have w0 : IntKind.i64.wrap 0 = 0 := by rw [IntWalk.i64_in _ (by omega)]
  have w1' : IntKind.i64.wrap (0 + (n : Int)) = (n : Int) := by rw [IntWalk.i64_in _ (by omega)]; omega
  have w2' : IntKind.i64.wrap (n : Int) = (n : Int) := by rw [IntWalk.i64_in _ (by omega)]
  refine still_tail 16 (by kernel_rfl) (by kernel_rfl) ?_
  intro W3 hW3
  have hk3 := (show W3.heap[b]? = W2.heap[b]? by rw [hW3]; rfl).trans hk2
  have hB3 : Below b w W3 := by rw [hW3]; exact hB2.drew
  have d0 : W3.cell? ⟨b, 0, none⟩ = some (.slice (some ⟨b, 2, none⟩) 64 64) := blk_cell hk3 0
  have d1 : W3.cell? ⟨b, 1, none⟩ = some (.int .i64 0) := blk_cell hk3 1
  have e0 := blk_frozen hk3 0
  clear hW3
  simp only [List.take_succ_cons, List.take_zero, List.drop_succ_cons, List.drop_zero]
  repeat still_step
  refine wpStill_nil ?_
  go_wp2
  go_ret
  refine ⟨rfl, ?_, Below.setCell hB3 (Nat.le_refl _) _⟩
  have hk4 := blk_set hk3 0 (Value.slice (some ⟨b, 2, none⟩) n 64)
  rw [Array.setIfInBounds_setIfInBounds] at hk4
  exact hk4

set_option maxHeartbeats 400000 in
theorem make_calls {w : World} {n : Nat} (hn : n ≤ 4194305) :
    Calls Try.prog 51 #[.int .i64 n] w fun e w' => e = .returned (.slice (some ⟨w.heap.size, 0, none⟩) n n) ∧ w'.heap[w.heap.size]? = some (.cells (madeCells #[.int .u8 0] n) 5 (0, 0)) ∧ Below w.heap.size w w' := by
  have hmk := print_make (P := Try.prog) 23 5 .u8 1 Try.underlying23 info_u8 (by decide) n (by omega)
  go_enter Try.func51, Try.ntmps51
  go_wp2
  go_ret
  exact ⟨rfl, blk_new w _, below_alloc (Below.refl _ _) _⟩

theorem copy_nil (q n : Nat) (W : World) : (Builtin.copy_ #[23, 23] 3 #[.slice (some ⟨q, 0, none⟩) n n, .slice none 0 0]).run Try.prog W = .ok (.int .i64 0) W := by
  obtain ⟨i0, hi, hzz⟩ := Option.map_eq_some_iff.1 info_u8
  simp only [Prod.mk.injEq] at hzz
  have hs : (Try.prog.info? 5).map (·.size) = some 1 := by rw [hi]; simp [hzz.2.1]
  have := run_copy_none (P := Try.prog) W 23 23 3 5 (some ⟨q, 0, none⟩) none n n 0 0 Try.underlying23 hs (Nat.zero_min _)
  exact this

set_option maxHeartbeats 800000 in
set_option maxRecDepth 100000 in
theorem grow_big {w : World} {b : Nat} {n : Nat} (hb : w.heap[b]? = some (.cells zbuf 39 (0, 0))) (h1 : 64 < n) (h2 : n ≤ 4194304) :
    Calls Try.prog 48 #[.pointer (some ⟨b, 0, none⟩), .int .i64 n] w fun e w' => e = .returned (.int .i64 0) ∧ ∃ q, b < q ∧ w'.heap[b]? = some (.cells (zbuf.setIfInBounds 0 (.slice (some ⟨q, 0, none⟩) n n)) 39 (0, 0)) ∧ w'.heap[q]? = some (.cells (madeCells #[.int .u8 0] n) 5 (0, 0)) ∧ Below b w w' := by
  have c0 : w.cell? ⟨b, 0, none⟩ = some (.slice none 0 0) := blk_cell hb 0
  have c1 : w.cell? ⟨b, 1, none⟩ = some (.int .i64 0) := blk_cell hb 1
  have hnil := nil_eq
  have hL := fun (w1 : World) (hb1 : Below w.heap.size w w1) => Len_calls (pw_cell_below hb1 c0) (pw_cell_below hb1 c1) (by omega)
  have hM := fun (w1 : World) => make_calls (w := w1) (n := n) (by omega)
  have g1 : (64 : Int) < (n : Int) := by omega
  have g2 : decide ((n : Int) ≤ 64) = false := decide_eq_false (by omega)
  have w0 : IntKind.i64.wrap 0 = 0 := by rw [IntWalk.i64_in _ (by omega)]
  have w2' : IntKind.i64.wrap (n : Int) = (n : Int) := by rw [IntWalk.i64_in _ (by omega)]
  go_enter Try.func48, Try.ntmps48
  go_wp2_with fail
  refine (hL w (Below.refl _ _)).mono ?_
  rintro e w1 ⟨rfl, hb1⟩
  replace c0 := pw_cell_below hb1 c0
  replace c1 := pw_cell_below hb1 c1
  have hk := blk_below hb hb1
  go_wp2
  go_quiet (fail)
  go_wp2_with fail
  refine (hM _).mono ?_
  rintro e w2 ⟨rfl, hq, hb2⟩
  obtain ⟨q, hqq⟩ : ∃ q, q = (w1.drewN nq).heap.size := ⟨_, rfl⟩
  have hB2 : Below w.heap.size w w2 := below_then (pw_below_drewN hb1 nq) (pw_below_drewN hb1 nq).size hb2
  have hk2 := blk_below hb hB2
  rw [← hqq] at hq ⊢
  have hbq : b < q := by
    have z1 := blk_lt hb
    have z2 : w.heap.size ≤ (w1.drewN nq).heap.size := (pw_below_drewN hb1 nq).size
    omega
  have d0 : w2.cell? ⟨b, 0, none⟩ = some (.slice none 0 0) := blk_cell hk2 0
  have d1 : w2.cell? ⟨b, 1, none⟩ = some (.int .i64 0) := blk_cell hk2 1
  clear c0 c1 hk hb1 hb2 hL hM hqq
  go_wp2
  have hcp := copy_nil q n
  have g3 : (n : Int) ≤ 4194304 := by omega
  have g4 : (0 : Int) ≤ (n : Int) := by omega
  refine still_tail 10 (by kernel_rfl) (by kernel_rfl) ?_
  intro W3 hW3
  have hk3 := (show W3.heap[b]? = w2.heap[b]? by rw [hW3]; rfl).trans hk2
  have hq3 := (show W3.heap[q]? = w2.heap[q]? by rw [hW3]; rfl).trans hq
  have hB3 : Below w.heap.size w W3 := by rw [hW3]; exact hB2.drew
  clear hW3
  have d0 : W3.cell? ⟨b, 0, none⟩ = some (.slice none 0 0) := blk_cell hk3 0
  have d1 : W3.cell? ⟨b, 1, none⟩ = some (.int .i64 0) := blk_cell hk3 1
  have e0 := blk_frozen hk3 0
  have e1 := blk_frozen hk3 1
  simp only [List.take_succ_cons, List.take_zero, List.drop_succ_cons, List.drop_zero]
  repeat still_step
  refine wpStill_nil ?_
  go_wp2
  have hk4 := blk_set (blk_set hk3 0 (Value.slice (some ⟨q, 0, none⟩) n n)) 1 (Value.int IntKind.i64 0)
  have hq4 := blk_far (blk_far hq3 (p := ⟨b, 0, none⟩) (Nat.ne_of_gt hbq) (Value.slice (some ⟨q, 0, none⟩) n n)) (p := ⟨b, 1, none⟩) (Nat.ne_of_gt hbq) (Value.int IntKind.i64 0)
  have hB4 : Below b w ((W3.setCell { block := b, off := 0 } (Value.slice (some { block := q, off := 0 }) n n)).setCell { block := b, off := 1 } (Value.int IntKind.i64 0)) :=
    Below.setCell (Below.setCell (hB3.mono (Nat.le_of_lt (blk_lt hb))) (Nat.le_refl _) _) (Nat.le_refl _) _
  generalize (W3.setCell { block := b, off := 0 } (Value.slice (some { block := q, off := 0 }) n n)).setCell { block := b, off := 1 } (Value.int IntKind.i64 0) = W4 at *
  have ez : (zbuf.setIfInBounds 0 (Value.slice (some ⟨q, 0, none⟩) n n)).setIfInBounds 1 (Value.int IntKind.i64 0) = zbuf.setIfInBounds 0 (Value.slice (some ⟨q, 0, none⟩) n n) := by rfl
  rw [ez] at hk4
  clear d0 d1 e0 e1 hB3 hq3 hk3 hB2 hk2 hq ez
  refine still_tail 16 (by kernel_rfl) (by kernel_rfl) ?_
  intro W5 hW5
  have hk5 := (show W5.heap[b]? = W4.heap[b]? by rw [hW5]; rfl).trans hk4
  have hq5 := (show W5.heap[q]? = W4.heap[q]? by rw [hW5]; rfl).trans hq4
  have hB5 : Below b w W5 := by rw [hW5]; exact hB4.drew
  clear hW5
  have d0 : W5.cell? ⟨b, 0, none⟩ = some (.slice (some ⟨q, 0, none⟩) n n) := blk_cell hk5 0
  have d1 : W5.cell? ⟨b, 1, none⟩ = some (.int .i64 0) := blk_cell hk5 1
  have e0 := blk_frozen hk5 0
  simp only [List.take_succ_cons, List.take_zero, List.drop_succ_cons, List.drop_zero]
  repeat still_step
  refine wpStill_nil ?_
  go_wp2
  go_ret
  have hk6 := blk_set hk5 0 (Value.slice (some ⟨q, 0, none⟩) n n)
  rw [Array.setIfInBounds_setIfInBounds] at hk6
  exact ⟨rfl, q, hbq, hk6, blk_far hq5 (p := ⟨b, 0, none⟩) (Nat.ne_of_gt hbq) _, Below.setCell hB5 (Nat.le_refl _) _⟩

end Go.Proofs.Ytpdibidfjhjoeaa.Bl
