/- The generator: made, and keys put into it. -/
import Derived.Test.YtpdibidfjhjoeaaBlHas
namespace Go.Proofs.Ytpdibidfjhjoeaa.Bl
open Go.RowKit Go.Proofs.YtpdibidfjhjoeaaW.PrintWords Go.Proofs.YtpdibidfjhjoeaaW.PrintMore Go.Proofs.Ytpdibidfjhjoeaa.Cmp
set_option linter.unusedVariables false

/-- the generator lies in a block of its own, and its hashes are a row of its own -/
structure GenS (w : World) (base g : Nat) (bits many : Int) (v : Value) (hs : List Int) : Prop where
  cells : w.heap[g]? = some (.cells #[.int .i64 bits, .int .u8 many, v] 69 (0, 0))
  row : Kd.R (Kd.int .u32) 47 w base (fun _ => True) v hs
  at_ : base ≤ g

theorem many_eq (bits : Int) (h0 : 0 ≤ bits) (h1 : bits ≤ 300) : manyI bits = if bits * 69 / 100 < 1 then 1 else if 30 < bits * 69 / 100 then 30 else bits * 69 / 100 := by
  unfold manyI mn mx
  (repeat' split) <;> omega

set_option maxHeartbeats 400000 in
theorem NewGen_calls (bits : Int) (h0 : 0 ≤ bits) (h1 : bits ≤ 300) (w : World) :
    Calls Try.prog 36 #[.int .i64 bits] w fun e w' => e = .returned (.iface 66 (.pointer (some ⟨w.heap.size, 0, none⟩))) ∧ GenS w' w.heap.size w.heap.size bits (manyI bits) (.slice none 0 0) [] ∧ Below w.heap.size w w' := by
  have hm := many_eq bits h0 h1
  generalize manyI bits = m at *
  have q0 : 0 ≤ bits * 69 / 100 := by omega
  have q1 : bits * 69 / 100 ≤ 207 := by omega
  by_cases c1 : bits * 69 / 100 < 1
  · rw [if_pos c1] at hm
    subst hm
    go_enter Try.func36, Try.ntmps36
    go_wp2
    go_ret
    exact ⟨rfl, ⟨blk_new _ _, Kd.R_nil _ _ _ _ _, Nat.le_refl _⟩, by go_grown⟩
  · rw [if_neg c1] at hm
    by_cases c2 : 30 < bits * 69 / 100
    · rw [if_pos c2] at hm
      subst hm
      go_enter Try.func36, Try.ntmps36
      go_wp2
      go_ret
      exact ⟨rfl, ⟨blk_new _ _, Kd.R_nil _ _ _ _ _, Nat.le_refl _⟩, by go_grown⟩
    · rw [if_neg c2] at hm
      subst hm
      go_enter Try.func36, Try.ntmps36
      go_wp2
      go_ret
      exact ⟨rfl, ⟨blk_new _ _, Kd.R_nil _ _ _ _ _, Nat.le_refl _⟩, by go_grown⟩

theorem GenS.cell {w : World} {base g : Nat} {bits many : Int} {v : Value} {hs : List Int} (h : GenS w base g bits many v hs) : w.cell? ⟨g, 0, none⟩ = some (.int .i64 bits) ∧ w.cell? ⟨g, 1, none⟩ = some (.int .u8 many) ∧ w.cell? ⟨g, 2, none⟩ = some v ∧ w.frozen? ⟨g, 2, none⟩ = false :=
  ⟨blk_cell h.cells 0, blk_cell h.cells 1, blk_cell h.cells 2, blk_frozen h.cells 2⟩

theorem GenS.below {w w1 : World} {base g : Nat} {bits many : Int} {v : Value} {hs : List Int} (h : GenS w base g bits many v hs) (hb : Below w.heap.size w w1) : GenS w1 base g bits many v hs :=
  ⟨(hb.block g (blk_lt h.cells)).trans h.cells, Kd.R_below h.row hb, h.at_⟩

set_option maxHeartbeats 400000 in
set_option maxRecDepth 100000 in
theorem Add_calls {w : World} {base g : Nat} {bits many : Int} {v : Value} {hs : List Int} (hG : GenS w base g bits many v hs) (hbase : base ≤ w.heap.size) (hl : hs.length ≤ 65536) {K : Option Addr} {d : Nat} {key : List Int} (h : Kd.C (Kd.int .u8) w K key.length key) (hd : key.length ≤ d) (hk : Byt key) :
    Calls Try.prog 41 #[.pointer (some ⟨g, 0, none⟩), .slice K key.length d] w fun e w' => e = .returned (.tuple #[]) ∧ ∃ v', GenS w' base g bits many v' (hs ++ [bhash key]) ∧ Below base w w' := by
  have hH := fun (w1 : World) (hb : Below w.heap.size w w1) => bloomHash_calls (Kd.C_below h hb) hd hk
  generalize bhash key = x at *
  clear h hk
  obtain ⟨c0, c1, c2, c3⟩ := hG.cell
  go_enter Try.func41, Try.ntmps41
  go_wp2
  go_region_law
    (first
      | (go_simp; go_at_call 37; refine (hH _ (Below.refl w.heap.size w).drew).mono ?_; rintro e w1 ⟨rfl, hb1⟩; have hG1 := hG.below (below_then (Below.refl w.heap.size w).drew (Nat.le_refl _) hb1); obtain ⟨d0, d1, d2, d3⟩ := hG1.cell; have d4 := fun o => (hG1.below (below_alloc (Below.refl _ _) o)).cell.2.2.1)
      | (refine Kd.R_append_step (Kd.int .u32) base rfl (.tmp 8) (.tmp 11) 67 47 (.int .u32 0) 4 rfl Try.underlying67 info_u32 rfl (by decide) (by decide) v hs x [.int .u32 x] (fun _ => True) (fun k => some k ≠ v.ownBlock) rfl rfl rfl (fun _ hk => ⟨trivial, hk⟩) (fun _ _ => trivial) hG1.row (Below.refl base w1) (Nat.le_trans hbase hb1.size) (by omega) ?_; intro v2 w2 hr2 hb2 hg2 hat2; obtain ⟨A2, cc2, rfl⟩ := Kd.R_slice hr2; have hk2 := (hg2.block g (blk_lt hG1.cells) (Kd.R_ne hG1.row hG1.cells (by decide))).trans hG1.cells; have e2 := blk_cell hk2 2; have e3 := blk_frozen hk2 2))
  all_goals
    have hB2 : Below base w w2 := (below_then (Below.refl w.heap.size w).drew (Nat.le_refl _) hb1).mono hbase |>.trans hb2
    have hR := Kd.R_set hr2 hk2 (by decide) 2 (Value.slice A2 (hs.length + 1) cc2)
    have hC := blk_set hk2 2 (Value.slice A2 (hs.length + 1) cc2)
    rw [show (hs ++ [x]).length = hs.length + 1 by simp] at hR
    go_wp2
    go_end0
    exact ⟨rfl, _, ⟨hC, hR, hG.at_⟩, Below.setCell hB2 hG.at_ _⟩

end Go.Proofs.Ytpdibidfjhjoeaa.Bl
