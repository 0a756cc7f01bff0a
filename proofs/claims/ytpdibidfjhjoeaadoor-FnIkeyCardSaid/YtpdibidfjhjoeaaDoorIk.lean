/- A block of bytes known whole; LittleEndian.PutUint64; internal keys made. -/
import Derived.Test.YtpdibidfjhjoeaaDoorLe
import Derived.Test.YtpdibidfjhjoeaaDoorSepImpl
namespace Go.Proofs.YtpdibidfjhjoeaaDoor.Ik
open Go.RowKit Go.Proofs.YtpdibidfjhjoeaaDoorW.PrintWords Go.Proofs.YtpdibidfjhjoeaaDoor.Cmp Go.Proofs.YtpdibidfjhjoeaaDoor.Run Go.Proofs.YtpdibidfjhjoeaaDoor.Con Go.Proofs.YtpdibidfjhjoeaaDoor.Le Go.Proofs.YtpdibidfjhjoeaaDoor.Sep
set_option linter.unusedVariables false

/-- block g holds just these bytes -/
def Blk (w : World) (g : Nat) (l : List Int) : Prop := w.heap[g]? = some (.cells (nums .u8 l).toArray 5 (0, 0))

theorem Blk.cell {w : World} {g : Nat} {l : List Int} (h : Blk w g l) (i : Nat) (hi : i < l.length) : w.cell? ⟨g, i, none⟩ = some (.int .u8 (l.getD i 0)) := by
  rw [blk_cell h]
  simp [nums, hi, List.getD_eq_getElem?_getD]
theorem Blk.frozen {w : World} {g : Nat} {l : List Int} (h : Blk w g l) (i : Nat) : w.frozen? ⟨g, i, none⟩ = false := blk_frozen h i
theorem Blk.lt {w : World} {g : Nat} {l : List Int} (h : Blk w g l) : g < w.heap.size := blk_lt h
theorem Blk.set {w : World} {g : Nat} {l : List Int} (h : Blk w g l) (i : Nat) (x : Int) : Blk (w.setCell ⟨g, i, none⟩ (.int .u8 x)) g (l.set i x) := by
  have := blk_set h i (.int .u8 x)
  unfold Blk
  rw [this]
  simp [nums, List.map_set]
theorem Blk.alloc {w : World} {g : Nat} {l : List Int} (h : Blk w g l) (o : Obj) : Blk (w.alloc o) g l := by
  unfold Blk
  rw [Below.heap_alloc w o g h.lt]
  exact h
theorem Blk.own {w : World} {g : Nat} {l : List Int} (h : Blk w g l) {base : Nat} (hb : base ≤ g) (hm : l.length ≤ 9223372036854775807) : w.ownsRow base 5 1 (.slice (some ⟨g, 0, none⟩) l.length l.length) l.length (nums .u8 l) :=
  ⟨by simp [nums], .inr ⟨g, l.length, _, rfl, hb, h, Nat.le_refl _, by simp only [maxLen]; omega, by simp [nums], by rw [List.toList_toArray, Nat.mul_one]; exact List.take_of_length_le (by simp [nums])⟩⟩
theorem Blk.read {w : World} {g : Nat} {l : List Int} (h : Blk w g l) (hm : l.length ≤ 9223372036854775807) : Kd.C (Kd.int .u8) w (some ⟨g, 0, none⟩) l.length l :=
  ints_C (own_reads' (h.own (Nat.le_refl _) hm))

/-- writing in place -/
def put (l : List Int) (o : Nat) (vs : List Int) : List Int := l.take o ++ (vs ++ l.drop (o + vs.length))

theorem put_cons (l : List Int) (o : Nat) (v : Int) (vs : List Int) (h : o + (vs.length + 1) ≤ l.length) : put (l.set o v) (o + 1) vs = put l o (v :: vs) := by
  unfold put
  have ho : o < l.length := by omega
  rw [List.take_succ_eq_append_getElem (by simpa using ho), List.drop_set_of_lt (by omega)]
  simp only [List.getElem_set_self, List.take_set_of_le (Nat.le_refl o), List.append_assoc, List.cons_append, List.nil_append, List.length_cons]
  rw [show o + 1 + vs.length = o + (vs.length + 1) from by omega]

theorem Blk.setCells : ∀ (vs : List Int) (o : Nat) (w : World) {g : Nat} {l : List Int}, Blk w g l → o + vs.length ≤ l.length → Blk (w.setCells g o (nums .u8 vs)) g (put l o vs)
  | [], o, w, g, l, h, _ => by simpa [put, nums, World.setCells] using h
  | v :: vs, o, w, g, l, h, hl => by
    have := Blk.setCells vs (o + 1) (w.setCell ⟨g, o, none⟩ (.int .u8 v)) (h.set o v) (by rw [List.length_set]; simp at hl; omega)
    rw [put_cons l o v vs (by simpa using hl)] at this
    exact this

theorem setCells_grown (g : Nat) : ∀ (vs : List Value) (o : Nat) (w : World), w.grownBy (w.setCells g o vs) (some g)
  | [], _, w => World.grownBy.refl w _
  | v :: vs, o, w => by
    have h := setCells_grown g vs (o + 1) (w.setCell ⟨g, o, none⟩ v)
    refine ⟨h.os, h.tape, h.output, ?_, fun k hk hne => ?_⟩
    · have := h.size; simpa [World.setCells] using this
    · rw [World.setCells, h.block k (by simpa using hk) hne]
      exact Below.heap_setCell w ⟨g, o, none⟩ v k (fun e => hne (by rw [e]))

set_option maxHeartbeats 1600000 in
set_option maxRecDepth 100000 in
theorem PutUint64_calls {w : World} {g o n c : Nat} {l : List Int} {v : Int} (hk : Blk w g l) (ho : o + 8 ≤ l.length) (hn : 8 ≤ n) (v0 : 0 ≤ v) (v1 : v < 18446744073709551616) :
    Calls Tryd.prog 45 #[.agg #[], .slice (some ⟨g, o, none⟩) n c, .int .u64 v] w fun e w' => e = .returned (.tuple #[]) ∧ Blk w' g (put l o (leB v)) ∧ w.grownBy w' (some g) := by
  have hcell : ∀ j, j < 8 → (w.alloc (.cells #[] 77)).cell? ⟨g, o + j, none⟩ = some (.int .u8 (l.getD (o + j) 0)) := fun j hj => (hk.alloc _).cell _ (by omega)
  have hfro : ∀ j, (w.alloc (.cells #[] 77)).frozen? ⟨g, o + j, none⟩ = false := fun j => (hk.alloc _).frozen _
  have fin : Hid (Blk ((w.alloc (.cells #[] 77)).setCells g o (nums .u8 (leB v))) g (put l o (leB v)) ∧ w.grownBy ((w.alloc (.cells #[] 77)).setCells g o (nums .u8 (leB v))) (some g)) := by
    refine ⟨Blk.setCells _ _ _ (hk.alloc _) (by rw [leB_len]; omega), ?_⟩
    have h := setCells_grown g (nums .u8 (leB v)) o (w.alloc (.cells #[] 77))
    exact ⟨h.os, h.tape, h.output, by have := h.size; simp at this; omega, fun k hk hne => by rw [h.block k (by simp; omega) hne]; exact Below.heap_alloc w _ k hk⟩
  have hb : Hid (leB v = [v % 256, v / 256 % 256, v / 65536 % 256, v / 16777216 % 256, v / 4294967296 % 256, v / 1099511627776 % 256, v / 281474976710656 % 256, v / 72057594037927936]) := by
    have e7 : v / 72057594037927936 % 256 = v / 72057594037927936 := by omega
    show leB v = _
    unfold leB
    rw [e7]
  have d0 := hcell 0 (by omega)
  have d1 := hcell 1 (by omega)
  have d2 := hcell 2 (by omega)
  have d3 := hcell 3 (by omega)
  have d4 := hcell 4 (by omega)
  have d5 := hcell 5 (by omega)
  have d6 := hcell 6 (by omega)
  have d7 := hcell 7 (by omega)
  have f0 := hfro 0
  have f1 := hfro 1
  have f2 := hfro 2
  have f3 := hfro 3
  have f4 := hfro 4
  have f5 := hfro 5
  have f6 := hfro 6
  have f7 := hfro 7
  rw [Nat.add_zero] at d0 f0
  have HK := Lib.hid hk
  clear hcell hfro hk
  generalize l.getD _ 0 = x0 at d0
  generalize l.getD _ 0 = x1 at d1
  generalize l.getD _ 0 = x2 at d2
  generalize l.getD _ 0 = x3 at d3
  generalize l.getD _ 0 = x4 at d4
  generalize l.getD _ 0 = x5 at d5
  generalize l.getD _ 0 = x6 at d6
  generalize l.getD _ 0 = x7 at d7
  go_enter Tryd.func45, Tryd.ntmps45
  go_wp2
  go_end0
  refine ⟨rfl, ?_⟩
  have z := fin.out
  rw [hb.out] at z ⊢
  exact z

end Go.Proofs.YtpdibidfjhjoeaaDoor.Ik
