-- PRINTED BY print.sh 35421559b90ae4d0a3588c463048766b98c2df88dd9212a6774a882060cdf62d: not written by this session
import Derived.Test.YtddjenmengipkaaPFnBatchLoadsx0
namespace Go.Proofs.Ytddjenmengipkaa.PFnBatchLoads
open Go.RowKit Go.Proofs.YtddjenmengipkaaW.PrintWords Go.Proofs.YtddjenmengipkaaW.PrintLast Go.Proofs.YtddjenmengipkaaW.PrintMore
attribute [local go_sem] max2_int min2_int max_two min_two max_three min_three max_four min_four   -- for this text's walks alone
set_option linter.unusedVariables false
set_option linter.unusedSimpArgs false

/-- A state of type 45 at block g of W; what its slices lead to came in by w0. -/
def IsS45 (w0 W : World) (g : Nat) (f0 : List Int) (f1 : List (S73)) (f2 : Int) : Prop := ∃ A0 c0, ∃ A1 c1, W.heap[g]? = some (.cells #[.slice A0 f0.length c0, .slice A1 f1.length c1, .int .i64 f2] 45 (0, 0)) ∧ w0.heap.size ≤ g ∧ Kd.C (Kd.int .u8) w0 A0 f0.length f0 ∧ Kd.C k73 w0 A1 f1.length f1
theorem IsS45.grown {w0 W : World} {g : Nat} {f0 : List Int} {f1 : List (S73)} {f2 : Int} {W1 : World} {row : Option Nat} (h : IsS45 w0 W g f0 f1 f2) (hw : W.grownBy W1 row) (hne : some g ≠ row) : IsS45 w0 W1 g f0 f1 f2 := by
  obtain ⟨A0, c0, A1, c1, hb, hg, hr0, hr1⟩ := h
  exact ⟨A0, c0, A1, c1, blk_grown hb hw hne, hg, hr0, hr1⟩
theorem IsS45.own_neN {w0 W : World} {g : Nat} {f0 : List Int} {f1 : List (S73)} {f2 : Int} {α : Type} {d : Kd α} {e : Nat} {base : Nat} {ok : Nat → Prop} {v : Value} {xs : List α} (h : IsS45 w0 W g f0 f1 f2) (ho : Kd.N d e W base ok v xs) (ht : e ≠ 45) : some g ≠ v.ownBlock := by
  obtain ⟨A0, c0, A1, c1, hb, hg, hr0, hr1⟩ := h
  exact Kd.N_ne ho hb ht
theorem IsS45.fresh {w0 W : World} {g : Nat} {f0 : List Int} {f1 : List (S73)} {f2 : Int} (h : IsS45 w0 W g f0 f1 f2) : ∀ k, W.heap.size ≤ k → k ≠ g := by
  obtain ⟨A0, c0, A1, c1, hb, hg, hr0, hr1⟩ := h
  exact Kd.freshB hb
theorem IsS45.kept {w0 W : World} {g : Nat} {f0 : List Int} {f1 : List (S73)} {f2 : Int} {W1 : World} {S : Nat → Prop} (h : IsS45 w0 W g f0 f1 f2) (hk : Kept W W1 S) (hne : ¬ S g) : IsS45 w0 W1 g f0 f1 f2 := by
  obtain ⟨A0, c0, A1, c1, hb, hg, hr0, hr1⟩ := h
  exact ⟨A0, c0, A1, c1, blk_kept hb hk hne, hg, hr0, hr1⟩
theorem IsS45.below {w0 W : World} {g : Nat} {f0 : List Int} {f1 : List (S73)} {f2 : Int} {W1 : World} (h : IsS45 w0 W g f0 f1 f2) (hw : Below W.heap.size W W1) : IsS45 w0 W1 g f0 f1 f2 := h.grown (grown_of_below hw none) (by simp)
theorem IsS45.alloc {w0 W : World} {g : Nat} {f0 : List Int} {f1 : List (S73)} {f2 : Int} (h : IsS45 w0 W g f0 f1 f2) (o : Obj) : IsS45 w0 (W.alloc o) g f0 f1 f2 := h.below (below_alloc (Below.refl _ _) o)
theorem IsS45.drewN {w0 W : World} {g : Nat} {f0 : List Int} {f1 : List (S73)} {f2 : Int} (h : IsS45 w0 W g f0 f1 f2) (m : Nat) : IsS45 w0 (W.drewN m) g f0 f1 f2 := h
theorem IsS45.drew {w0 W : World} {g : Nat} {f0 : List Int} {f1 : List (S73)} {f2 : Int} (h : IsS45 w0 W g f0 f1 f2) : IsS45 w0 W.drew g f0 f1 f2 := h
theorem IsS45.at_ {w0 W : World} {g : Nat} {f0 : List Int} {f1 : List (S73)} {f2 : Int} {w' : World} {m : Nat} (hq : W.drewN m = w') (h : IsS45 w0 W g f0 f1 f2) : IsS45 w0 w' g f0 f1 f2 := by subst hq; exact IsS45.drewN h m
theorem IsS45.apart {w0 W : World} {g : Nat} {f0 : List Int} {f1 : List (S73)} {f2 : Int} {α : Type} {d : Kd α} {e : Nat} {base : Nat} {ok : Nat → Prop} {v : Value} {xs : List α} (h : IsS45 w0 W g f0 f1 f2) (ho : d.R e W base ok v xs) (ht : ∀ q, q ∈ e :: d.E → q ≠ 45) : d.R e W base (fun k => ok k ∧ k ≠ g) v xs := by
  obtain ⟨A0, c0, A1, c1, hb, hg, hr0, hr1⟩ := h
  exact Kd.R_types ho hb ht
theorem IsS45.own_ne {w0 W : World} {g : Nat} {f0 : List Int} {f1 : List (S73)} {f2 : Int} {α : Type} {d : Kd α} {e : Nat} {base : Nat} {ok : Nat → Prop} {v : Value} {xs : List α} (h : IsS45 w0 W g f0 f1 f2) (ho : d.R e W base ok v xs) (ht : e ≠ 45) : some g ≠ v.ownBlock := by
  obtain ⟨A0, c0, A1, c1, hb, hg, hr0, hr1⟩ := h
  exact Kd.R_ne ho hb ht
theorem IsS45.apartQ {w0 W : World} {g : Nat} {f0 : List Int} {f1 : List (S73)} {f2 : Int} {α : Type} {d : Kd α} {e : Nat} {base : Nat} {ok : Nat → Prop} {v : Value} {xs : List α} (h : IsS45 w0 W g f0 f1 f2) (ho : d.Q e W base ok v xs) (ht : ∀ q, q ∈ e :: d.E → q ≠ 45) : d.Q e W base (fun k => ok k ∧ k ≠ g) v xs := by
  obtain ⟨A0, c0, A1, c1, hb, hg, hr0, hr1⟩ := h
  exact Kd.Q_types ho hb ht
theorem IsS45.own_neQ {w0 W : World} {g : Nat} {f0 : List Int} {f1 : List (S73)} {f2 : Int} {α : Type} {d : Kd α} {e : Nat} {base : Nat} {ok : Nat → Prop} {v : Value} {xs : List α} (h : IsS45 w0 W g f0 f1 f2) (ho : d.Q e W base ok v xs) (ht : e ≠ 45) : some g ≠ v.ownBlock := by
  obtain ⟨A0, c0, A1, c1, hb, hg, hr0, hr1⟩ := h
  exact Kd.Q_ne ho hb ht
theorem IsS45.apartS {w0 W : World} {g : Nat} {f0 : List Int} {f1 : List (S73)} {f2 : Int} {α : Type} {d : Kd α} {e : Nat} {base : Nat} {ok : Nat → Prop} {v : Value} {xs : List α} (h : IsS45 w0 W g f0 f1 f2) (ho : d.S e W base ok v xs) (ht : ∀ q, q ∈ e :: d.E → q ≠ 45) : d.S e W base (fun k => ok k ∧ k ≠ g) v xs := by
  obtain ⟨A0, c0, A1, c1, hb, hg, hr0, hr1⟩ := h
  exact Kd.S_types ho hb ht
theorem IsS45.own_neS {w0 W : World} {g : Nat} {f0 : List Int} {f1 : List (S73)} {f2 : Int} {α : Type} {d : Kd α} {e : Nat} {base : Nat} {ok : Nat → Prop} {v : Value} {xs : List α} (h : IsS45 w0 W g f0 f1 f2) (ho : d.S e W base ok v xs) (ht : e ≠ 45) : some g ≠ v.ownBlock := by
  obtain ⟨A0, c0, A1, c1, hb, hg, hr0, hr1⟩ := h
  exact Kd.S_ne ho hb ht
theorem IsS45.lt {w0 W : World} {g : Nat} {f0 : List Int} {f1 : List (S73)} {f2 : Int} (h : IsS45 w0 W g f0 f1 f2) : g < W.heap.size := by
  obtain ⟨A0, c0, A1, c1, hb, hg, hr0, hr1⟩ := h
  exact blk_lt hb
theorem IsS45.ge {w0 W : World} {g : Nat} {f0 : List Int} {f1 : List (S73)} {f2 : Int} (h : IsS45 w0 W g f0 f1 f2) : w0.heap.size ≤ g := by
  obtain ⟨A0, c0, A1, c1, hb, hg, hr0, hr1⟩ := h
  exact hg
theorem IsS45.ne_blk {w0 W : World} {g : Nat} {f0 : List Int} {f1 : List (S73)} {f2 : Int} {a : Nat} {cs : Array Value} {t : TypeId} {fr : Nat × Nat} (h : IsS45 w0 W g f0 f1 f2) (hb2 : W.heap[a]? = some (.cells cs t fr)) (ht : t ≠ 45) : g ≠ a := by
  obtain ⟨A0, c0, A1, c1, hb, hg, hr0, hr1⟩ := h
  rintro rfl
  rw [hb] at hb2
  injection hb2 with hb2
  injection hb2 with _ ht2
  exact ht ht2.symm
theorem IsS45.far {w0 W : World} {g : Nat} {f0 : List Int} {f1 : List (S73)} {f2 : Int} {p : Addr} (h : IsS45 w0 W g f0 f1 f2) (hne : g ≠ p.block) (u : Value) : IsS45 w0 (W.setCell p u) g f0 f1 f2 := by
  obtain ⟨A0, c0, A1, c1, hb, hg, hr0, hr1⟩ := h
  exact ⟨A0, c0, A1, c1, blk_far hb hne u, hg, hr0, hr1⟩
theorem cellS45_0 {W : World} {g : Nat} {A0 : Option Addr} {c0 : Nat} {A1 : Option Addr} {c1 : Nat} {f0 : List Int} {f1 : List (S73)} {f2 : Int} (h : W.heap[g]? = some (.cells #[.slice A0 f0.length c0, .slice A1 f1.length c1, .int .i64 f2] 45 (0, 0))) : W.cell? ⟨g, 0, none⟩ = some (.slice A0 f0.length c0) := (blk_cell h 0).trans rfl
theorem cellS45_1 {W : World} {g : Nat} {A0 : Option Addr} {c0 : Nat} {A1 : Option Addr} {c1 : Nat} {f0 : List Int} {f1 : List (S73)} {f2 : Int} (h : W.heap[g]? = some (.cells #[.slice A0 f0.length c0, .slice A1 f1.length c1, .int .i64 f2] 45 (0, 0))) : W.cell? ⟨g, 1, none⟩ = some (.slice A1 f1.length c1) := (blk_cell h 1).trans rfl
theorem cellS45_2 {W : World} {g : Nat} {A0 : Option Addr} {c0 : Nat} {A1 : Option Addr} {c1 : Nat} {f0 : List Int} {f1 : List (S73)} {f2 : Int} (h : W.heap[g]? = some (.cells #[.slice A0 f0.length c0, .slice A1 f1.length c1, .int .i64 f2] 45 (0, 0))) : W.cell? ⟨g, 2, none⟩ = some (.int .i64 f2) := (blk_cell h 2).trans rfl
theorem IsS45.set_2 {w0 W : World} {g : Nat} {f0 : List Int} {f1 : List (S73)} {f2 : Int} (h : IsS45 w0 W g f0 f1 f2) (x : Int) : IsS45 w0 (W.setCell ⟨g, 2, none⟩ (.int .i64 x)) g f0 f1 x := by
  obtain ⟨A0, c0, A1, c1, hb, hg, hr0, hr1⟩ := h
  exact ⟨A0, c0, A1, c1, by simpa using blk_set hb 2 (.int .i64 x), hg, hr0, hr1⟩
theorem IsS45.new (w0 W : World) (A0 : Option Addr) (c0 : Nat) (A1 : Option Addr) (c1 : Nat) (f0 : List Int) (f1 : List (S73)) (f2 : Int) (hB : Below w0.heap.size w0 W) (hr0 : Kd.C (Kd.int .u8) w0 A0 f0.length f0) (hr1 : Kd.C k73 w0 A1 f1.length f1) : IsS45 w0 (W.alloc (.cells #[.slice A0 f0.length c0, .slice A1 f1.length c1, .int .i64 f2] 45)) W.heap.size f0 f1 f2 := ⟨A0, c0, A1, c1, by simpa using heap_alloc_new W _, hB.size, hr0, hr1⟩

/-! ### leveldb_Batch_Len: function 20 -/
def leveldb_Batch_Len.f (s0_0 : List Int) (s0_1 : List (S73)) (s0_2 : Int) : Option (Int × Int) := some ((s0_1.length : Int), s0_2)
set_option maxHeartbeats 8000000 in
set_option maxRecDepth 100000 in
theorem leveldb_Batch_Len.calls (g : Nat) (s0_0 : List Int) (s0_1 : List (S73)) (s0_2 : Int) (r1 : Int) (r2 : Int) (w0 w : World) (hI : IsS45 w0 w g s0_0 s0_1 s0_2) (hB : Below w0.heap.size w0 w) (h : leveldb_Batch_Len.f s0_0 s0_1 s0_2 = some (r1, r2)) :
    Calls Try.prog 20 #[.pointer (some ⟨g, 0, none⟩)] w fun e w' => e = .returned (.int .i64 r1) ∧ IsS45 w0 w' g s0_0 s0_1 r2 ∧ Below w0.heap.size w0 w' ∧ KeepBut w w' g none := by
  have HI0 := Aside0.mk hI
  have HK := Aside0.mk (KeepBut.refl w g none)
  have HL := Aside0.mk hB.size
  clear hI
  have HW0 := Aside0.mk hB.size
  have HB := Aside0.mk hB
  clear hB
  have H : (some ((s0_1.length : Int), s0_2)) = some (r1, r2) := h
  clear h
  simp only [Option.some.injEq, Prod.mk.injEq] at H
  obtain ⟨rfl, rfl⟩ := H
  obtain ⟨ASz2_0, cSz2_0, ASz2_1, cSz2_1, HGz2, hgz2, HSz2_0, HSz2_1⟩ := HI0.out
  have hcz2_0 := cellS45_0 HGz2
  have hcz2_1 := cellS45_1 HGz2
  have hcz2_2 := cellS45_2 HGz2
  have hfz2_2 := blk_frozen HGz2 2
  clear HGz2 hgz2
  go_enter Try.func20, Try.ntmps20
  go_wp2
  go_ret
  exact ⟨by first | rfl | (simp [errW_none, errW_some] <;> rfl) | (simp [*, errW_none, errW_some] <;> rfl), by repeat (first | (with_reducible first | exact HI0.out | apply IsS45.alloc | apply IsS45.drewN | apply IsS45.drew | apply IsS45.set_2) | exact HI0.out), by repeat (first | (with_reducible first | exact HB.out | apply below_alloc | apply pw_below_drewN | apply below_drew1 | refine below_set ?_ (IsS45.ge HI0.out)) | exact HB.out), by repeat (first | (with_reducible first | exact HK.out | apply KeepBut.set_ | apply keep_drewN | apply keep_drew | apply keep_alloc) | exact HK.out)⟩

-- NOT PRINTED: function 7 (impl_BatchLoad)

/-! ### spec_BytesCompare: function 28 -/
mutual
def spec_BytesCompare.l0 : Nat → List Int → List Int → Int → Option (Int)
  | 0, _, _, _ => none
  | k + 1, x0, x1, x5 => if x5 < (x0.length : Int) then (spec_BytesCompare.j1 k x0 x1 x5 (decide (x5 < (x1.length : Int)))) else (spec_BytesCompare.j1 k x0 x1 x5 false)
def spec_BytesCompare.j1 : Nat → List Int → List Int → Int → Bool → Option (Int)
  | 0, _, _, _, _ => none
  | k + 1, x0, x1, x5, x15 => if x15 = true then (if 0 ≤ x5 then (if x5 < (x0.length : Int) then (if x5 < (x1.length : Int) then (if (rd x0 x5) < (rd x1 x5) then (some (-1)) else (if (rd x0 x5) > (rd x1 x5) then (some 1) else (spec_BytesCompare.l0 k x0 x1 (wrap64 (x5 + 1))))) else (none)) else (none)) else (none)) else (if (x0.length : Int) < (x1.length : Int) then (some (-1)) else (if (x0.length : Int) > (x1.length : Int) then (some 1) else (some 0)))
end
def spec_BytesCompare.f (k : Nat) (l0 : List Int) (l1 : List Int) : Option (Int) := spec_BytesCompare.l0 k l0 l1 0
theorem spec_BytesCompare.mono_l : ∀ k, (∀ y0 y1 y2, LeO (spec_BytesCompare.l0 k y0 y1 y2) (spec_BytesCompare.l0 (k + 1) y0 y1 y2)) ∧ (∀ y0 y1 y2 y3, LeO (spec_BytesCompare.j1 k y0 y1 y2 y3) (spec_BytesCompare.j1 (k + 1) y0 y1 y2 y3))
  | 0 => ⟨fun _ _ _ r h => by simp [spec_BytesCompare.l0] at h, fun _ _ _ _ r h => by simp [spec_BytesCompare.j1] at h⟩
  | k + 1 => by
    obtain ⟨ih0, ih1⟩ := spec_BytesCompare.mono_l k
    refine ⟨?_, ?_⟩
    · intro y0 y1 y2
      unfold spec_BytesCompare.l0
      repeat' first
      | (with_reducible exact ih0 _ _ _)
      | (with_reducible exact ih1 _ _ _ _)
      | (with_reducible exact LeO.refl _)
      | (with_reducible exact LeO.none _)
      | (with_reducible refine LeO.ite ?_ ?_)
      | (with_reducible refine LeO.bind ?_ (fun _ => ?_))
      | exact ih0 _ _ _
      | exact ih1 _ _ _ _
      | exact LeO.none _
      | refine LeO.ite ?_ ?_
      | refine LeO.bind ?_ (fun _ => ?_)
    · intro y0 y1 y2 y3
      unfold spec_BytesCompare.j1
      repeat' first
      | (with_reducible exact ih0 _ _ _)
      | (with_reducible exact ih1 _ _ _ _)
      | (with_reducible exact LeO.refl _)
      | (with_reducible exact LeO.none _)
      | (with_reducible refine LeO.ite ?_ ?_)
      | (with_reducible refine LeO.bind ?_ (fun _ => ?_))
      | exact ih0 _ _ _
      | exact ih1 _ _ _ _
      | exact LeO.none _
      | refine LeO.ite ?_ ?_
      | refine LeO.bind ?_ (fun _ => ?_)
theorem spec_BytesCompare.mono : ∀ a0 a1 k, LeO (spec_BytesCompare.f k a0 a1) (spec_BytesCompare.f (k + 1) a0 a1) := by
  intro a0 a1 k
  obtain ⟨ih0, ih1⟩ := spec_BytesCompare.mono_l k
  unfold spec_BytesCompare.f
  repeat' first
      | (with_reducible exact ih0 _ _ _)
      | (with_reducible exact ih1 _ _ _ _)
      | (with_reducible exact LeO.refl _)
      | (with_reducible exact LeO.none _)
      | (with_reducible refine LeO.ite ?_ ?_)
      | (with_reducible refine LeO.bind ?_ (fun _ => ?_))
      | exact ih0 _ _ _
      | exact ih1 _ _ _ _
      | exact LeO.none _
      | refine LeO.ite ?_ ?_
      | refine LeO.bind ?_ (fun _ => ?_)
set_option maxHeartbeats 8000000 in
set_option maxRecDepth 100000 in
theorem spec_BytesCompare.calls (k : Nat) (A0 : Option Addr) (c0 : Nat) (l0 : List Int) (A1 : Option Addr) (c1 : Nat) (l1 : List Int) (r : Int) (w : World) (hr0 : Kd.C (Kd.int .u8) w A0 l0.length l0) (hc0 : l0.length ≤ c0) (hr1 : Kd.C (Kd.int .u8) w A1 l1.length l1) (hc1 : l1.length ≤ c1) (h : spec_BytesCompare.f k l0 l1 = some r) :
    Calls Try.prog 28 #[.slice A0 l0.length c0, .slice A1 l1.length c1] w fun e w' => e = .returned (.int .i64 r) ∧ Drawn0 w w' := by
  have HR0 := Aside0.mk hr0
  have HC0 := Aside0.mk hc0
  clear hr0 hc0
  have HR1 := Aside0.mk hr1
  have HC1 := Aside0.mk hc1
  clear hr1 hc1
  have H : (spec_BytesCompare.l0 k l0 l1 0) = some r := h
  clear h
  have H' := Aside0.mk H
  clear H
  go_enter Try.func28, Try.ntmps28
  go_wp2
  repeat (go_quiet (fail); try go_wp2)
  go_loopg [5] k (fun kq v5 w' => ∃ (x5_1 : Int), v5 = .int .i64 x5_1 ∧ Aside0 (spec_BytesCompare.l0 kq l0 l1 x5_1 = some r) ∧ Aside0 (kq ≤ k) ∧ Drawn0 w w')
  case atStart => exact ⟨(0), (by first | rfl | (simp; done) | (simp [*]; done)), H', ⟨Nat.le_refl _⟩, by repeat (first | exact Drawn0.refl _ | apply Drawn0.step)⟩
  case round =>
    clear H'
    try clear c1
    try clear c2
    try clear p2
    obtain ⟨x5_1, rfl, HA, HK1, ⟨m1, rfl⟩⟩ := hrel
    cases gk with
    | zero => exact absurd HA.out (by simp [spec_BytesCompare.l0])
    | succ k1 =>
      have H := HA.out
      clear HA
      simp only [spec_BytesCompare.l0] at H
      have HC3 := Aside0.mk H
      clear H
      go_upto_region 2 with (fail)
      repeat (go_quiet (fail); go_upto_region 2 with (fail))
      go_cut [15] (fun v15 wc => ∃ (kq : Nat) (x15_2 : Bool), v15 = .bool x15_2 ∧ Aside0 (spec_BytesCompare.j1 kq l0 l1 x5_1 x15_2 = some r) ∧ Aside0 (kq ≤ k1) ∧ Drawn0 w wc)
      case first =>
        have H := HC3.out
        clear HC3
        by_cases c4 : x5_1 < (l0.length : Int)
        · rw [if_pos c4] at H
          have c4b0 : decide (x5_1 < (l0.length : Int)) = true := decide_eq_true c4
          clear c4
          (first | rw [c4b0] | (simp only [i64_w, i32_w]; rw [c4b0]) | skip)
          have H' := Aside0.mk H
          clear H
          go_wp2
          repeat (go_quiet (fail); try go_wp2)
          go_meet
          case rel => exact ⟨_, (decide (x5_1 < (l1.length : Int))), (by first | rfl | (simp; done) | (simp [*]; done)), H', ⟨by have := HK1.out; first | omega | exact Nat.le_refl _⟩, by repeat (first | exact Drawn0.refl _ | apply Drawn0.step)⟩
        · rw [if_neg c4] at H
          have c4b0 : decide (x5_1 < (l0.length : Int)) = false := decide_eq_false c4
          clear c4
          (first | rw [c4b0] | (simp only [i64_w, i32_w]; rw [c4b0]) | skip)
          have H' := Aside0.mk H
          clear H
          go_wp2
          repeat (go_quiet (fail); try go_wp2)
          go_meet
          case rel => exact ⟨_, (false), (by first | rfl | (simp; done) | (simp [*]; done)), H', ⟨by have := HK1.out; first | omega | exact Nat.le_refl _⟩, by repeat (first | exact Drawn0.refl _ | apply Drawn0.step)⟩
      case rest =>
        clear HC3
        try clear c1
        try clear c2
        try clear p2
        try clear c4
        try clear c4b0
        try clear p2
        obtain ⟨kq, x15_2, rfl, HA, HJ2, ⟨mc2, rfl⟩⟩ := hcut
        cases kq with
        | zero => exact absurd HA.out (by simp [spec_BytesCompare.j1])
        | succ kj2 =>
          have H := HA.out
          clear HA
          simp only [spec_BytesCompare.j1] at H
          by_cases c5 : x15_2 = true
          · subst c5
            have H1 : (if 0 ≤ x5_1 then (if x5_1 < (l0.length : Int) then (if x5_1 < (l1.length : Int) then (if (rd l0 x5_1) < (rd l1 x5_1) then (some (-1)) else (if (rd l0 x5_1) > (rd l1 x5_1) then (some 1) else (spec_BytesCompare.l0 kj2 l0 l1 (wrap64 (x5_1 + 1))))) else (none)) else (none)) else (none)) = some r := by rw [if_pos rfl] at H; exact H
            clear H
            have H := H1
            clear H1
            by_cases c6 : 0 ≤ x5_1
            · rw [if_pos c6] at H
              have c6b0 : decide (0 ≤ x5_1) = true := decide_eq_true c6
              clear c6
              by_cases c7 : x5_1 < (l0.length : Int)
              · rw [if_pos c7] at H
                have c7b0 : decide (x5_1 < (l0.length : Int)) = true := decide_eq_true c7
                clear c7
                by_cases c8 : x5_1 < (l1.length : Int)
                · rw [if_pos c8] at H
                  have c8b0 : decide (x5_1 < (l1.length : Int)) = true := decide_eq_true c8
                  clear c8
                  by_cases c9 : (rd l0 x5_1) < (rd l1 x5_1)
                  · rw [if_pos c9] at H
                    have c9b0 : decide ((rd l0 x5_1) < (rd l1 x5_1)) = true := decide_eq_true c9
                    clear c9
                    obtain rfl := Option.some.inj H
                    have p135 : 0 ≤ (x5_1 : Int) := of_decide_eq_true (by first | (with_reducible assumption) | assumption)
                    have q135 : x5_1 < (l0.length : Int) := of_decide_eq_true (by first | (with_reducible assumption) | assumption)
                    obtain ⟨ad135, e135, hx135_0⟩ := Kd.at_int HR0.out x5_1 p135 q135
                    cases e135
                    replace p135 := eq_true p135
                    replace q135 := eq_true q135
                    have p136 : 0 ≤ (x5_1 : Int) := of_decide_eq_true (by first | (with_reducible assumption) | assumption)
                    have q136 : x5_1 < (l1.length : Int) := of_decide_eq_true (by first | (with_reducible assumption) | assumption)
                    obtain ⟨ad136, e136, hx136_0⟩ := Kd.at_int HR1.out x5_1 p136 q136
                    cases e136
                    replace p136 := eq_true p136
                    replace q136 := eq_true q136
                    go_wp2
                    repeat (go_quiet (fail); try go_wp2)
                    go_ret
                    exact ⟨by first | rfl | (simp; done) | (simp [*]; done), by repeat (first | exact Drawn0.refl _ | apply Drawn0.step)⟩
                  · rw [if_neg c9] at H
                    have c9b0 : decide ((rd l0 x5_1) < (rd l1 x5_1)) = false := decide_eq_false c9
                    clear c9
                    by_cases c10 : (rd l0 x5_1) > (rd l1 x5_1)
                    · rw [if_pos c10] at H
                      have c10b0 : decide ((rd l1 x5_1) < (rd l0 x5_1)) = true := decide_eq_true c10
                      clear c10
                      obtain rfl := Option.some.inj H
                      have p135 : 0 ≤ (x5_1 : Int) := of_decide_eq_true (by first | (with_reducible assumption) | assumption)
                      have q135 : x5_1 < (l0.length : Int) := of_decide_eq_true (by first | (with_reducible assumption) | assumption)
                      obtain ⟨ad135, e135, hx135_0⟩ := Kd.at_int HR0.out x5_1 p135 q135
                      cases e135
                      replace p135 := eq_true p135
                      replace q135 := eq_true q135
                      have p136 : 0 ≤ (x5_1 : Int) := of_decide_eq_true (by first | (with_reducible assumption) | assumption)
                      have q136 : x5_1 < (l1.length : Int) := of_decide_eq_true (by first | (with_reducible assumption) | assumption)
                      obtain ⟨ad136, e136, hx136_0⟩ := Kd.at_int HR1.out x5_1 p136 q136
                      cases e136
                      replace p136 := eq_true p136
                      replace q136 := eq_true q136
                      have p137 : 0 ≤ (x5_1 : Int) := of_decide_eq_true (by first | (with_reducible assumption) | assumption)
                      have q137 : x5_1 < (l0.length : Int) := of_decide_eq_true (by first | (with_reducible assumption) | assumption)
                      obtain ⟨ad137, e137, hx137_0⟩ := Kd.at_int HR0.out x5_1 p137 q137
                      obtain rfl : ad135 = ad137 := (by injection e137)
                      replace p137 := eq_true p137
                      replace q137 := eq_true q137
                      have p138 : 0 ≤ (x5_1 : Int) := of_decide_eq_true (by first | (with_reducible assumption) | assumption)
                      have q138 : x5_1 < (l1.length : Int) := of_decide_eq_true (by first | (with_reducible assumption) | assumption)
                      obtain ⟨ad138, e138, hx138_0⟩ := Kd.at_int HR1.out x5_1 p138 q138
                      obtain rfl : ad136 = ad138 := (by injection e138)
                      replace p138 := eq_true p138
                      replace q138 := eq_true q138
                      go_wp2
                      repeat (go_quiet (fail); try go_wp2)
                      go_ret
                      exact ⟨by first | rfl | (simp; done) | (simp [*]; done), by repeat (first | exact Drawn0.refl _ | apply Drawn0.step)⟩
                    · rw [if_neg c10] at H
                      have c10b0 : decide ((rd l1 x5_1) < (rd l0 x5_1)) = false := decide_eq_false c10
                      clear c10
                      have H' := Aside0.mk H
                      clear H
                      have p135 : 0 ≤ (x5_1 : Int) := of_decide_eq_true (by first | (with_reducible assumption) | assumption)
                      have q135 : x5_1 < (l0.length : Int) := of_decide_eq_true (by first | (with_reducible assumption) | assumption)
                      obtain ⟨ad135, e135, hx135_0⟩ := Kd.at_int HR0.out x5_1 p135 q135
                      cases e135
                      replace p135 := eq_true p135
                      replace q135 := eq_true q135
                      have p136 : 0 ≤ (x5_1 : Int) := of_decide_eq_true (by first | (with_reducible assumption) | assumption)
                      have q136 : x5_1 < (l1.length : Int) := of_decide_eq_true (by first | (with_reducible assumption) | assumption)
                      obtain ⟨ad136, e136, hx136_0⟩ := Kd.at_int HR1.out x5_1 p136 q136
                      cases e136
                      replace p136 := eq_true p136
                      replace q136 := eq_true q136
                      have p137 : 0 ≤ (x5_1 : Int) := of_decide_eq_true (by first | (with_reducible assumption) | assumption)
                      have q137 : x5_1 < (l0.length : Int) := of_decide_eq_true (by first | (with_reducible assumption) | assumption)
                      obtain ⟨ad137, e137, hx137_0⟩ := Kd.at_int HR0.out x5_1 p137 q137
                      obtain rfl : ad135 = ad137 := (by injection e137)
                      replace p137 := eq_true p137
                      replace q137 := eq_true q137
                      have p138 : 0 ≤ (x5_1 : Int) := of_decide_eq_true (by first | (with_reducible assumption) | assumption)
                      have q138 : x5_1 < (l1.length : Int) := of_decide_eq_true (by first | (with_reducible assumption) | assumption)
                      obtain ⟨ad138, e138, hx138_0⟩ := Kd.at_int HR1.out x5_1 p138 q138
                      obtain rfl : ad136 = ad138 := (by injection e138)
                      replace p138 := eq_true p138
                      replace q138 := eq_true q138
                      go_wp2
                      repeat (go_quiet (fail); try go_wp2)
                      go_roundg kj2
                      case measure => have := HK1.out; have := HJ2.out; omega
                      case rel => exact ⟨(wrap64 (x5_1 + 1)), (by first | rfl | (simp; done) | (simp [*]; done)), H', ⟨by have := HK1.out; have := HJ2.out; omega⟩, by repeat (first | exact Drawn0.refl _ | apply Drawn0.step)⟩
                · rw [if_neg c8] at H
                  exact absurd H (by simp)
              · rw [if_neg c7] at H
                exact absurd H (by simp)
            · rw [if_neg c6] at H
              exact absurd H (by simp)
          · replace c5 := Bool.eq_false_iff.mpr c5
            subst c5
            have H1 : (if (l0.length : Int) < (l1.length : Int) then (some (-1)) else (if (l0.length : Int) > (l1.length : Int) then (some 1) else (some 0))) = some r := by rw [if_neg (show ¬ (false = true) by decide)] at H; exact H
            clear H
            have H := H1
            clear H1
            by_cases c11 : (l0.length : Int) < (l1.length : Int)
            · rw [if_pos c11] at H
              have c11b0 : decide ((l0.length : Int) < (l1.length : Int)) = true := decide_eq_true c11
              have c11b1 : decide (l0.length < l1.length) = true := decide_eq_true (Int.ofNat_lt.mp c11)
              clear c11
              obtain rfl := Option.some.inj H
              go_wp2
              repeat (go_quiet (fail); try go_wp2)
              go_ret
              exact ⟨by first | rfl | (simp; done) | (simp [*]; done), by repeat (first | exact Drawn0.refl _ | apply Drawn0.step)⟩
            · rw [if_neg c11] at H
              have c11b0 : decide ((l0.length : Int) < (l1.length : Int)) = false := decide_eq_false c11
              have c11b1 : decide (l0.length < l1.length) = false := decide_eq_false (fun h => c11 (Int.ofNat_lt.mpr h))
              clear c11
              by_cases c12 : (l0.length : Int) > (l1.length : Int)
              · rw [if_pos c12] at H
                have c12b0 : decide ((l1.length : Int) < (l0.length : Int)) = true := decide_eq_true c12
                have c12b1 : decide (l1.length < l0.length) = true := decide_eq_true (Int.ofNat_lt.mp c12)
                clear c12
                obtain rfl := Option.some.inj H
                go_wp2
                repeat (go_quiet (fail); try go_wp2)
                go_ret
                exact ⟨by first | rfl | (simp; done) | (simp [*]; done), by repeat (first | exact Drawn0.refl _ | apply Drawn0.step)⟩
              · rw [if_neg c12] at H
                have c12b0 : decide ((l1.length : Int) < (l0.length : Int)) = false := decide_eq_false c12
                have c12b1 : decide (l1.length < l0.length) = false := decide_eq_false (fun h => c12 (Int.ofNat_lt.mpr h))
                clear c12
                obtain rfl := Option.some.inj H
                go_wp2
                repeat (go_quiet (fail); try go_wp2)
                go_ret
                exact ⟨by first | rfl | (simp; done) | (simp [*]; done), by repeat (first | exact Drawn0.refl _ | apply Drawn0.step)⟩

/-! ### spec_BytesSame: function 14 -/
def spec_BytesSame.f (k : Nat) (l0 : List Int) (l1 : List Int) : Option (Bool) := (spec_BytesCompare.f k l0 l1).bind fun t139 => (some (t139 == 0))
theorem spec_BytesSame.mono : ∀ a0 a1 k, LeO (spec_BytesSame.f k a0 a1) (spec_BytesSame.f (k + 1) a0 a1) := by
  intro a0 a1 k
  unfold spec_BytesSame.f
  repeat' first
      | (with_reducible exact spec_BytesCompare.mono _ _ _)
      | (with_reducible exact LeO.refl _)
      | (with_reducible exact LeO.none _)
      | (with_reducible refine LeO.ite ?_ ?_)
      | (with_reducible refine LeO.bind ?_ (fun _ => ?_))
      | exact spec_BytesCompare.mono _ _ _
      | exact LeO.none _
      | refine LeO.ite ?_ ?_
      | refine LeO.bind ?_ (fun _ => ?_)
set_option maxHeartbeats 8000000 in
set_option maxRecDepth 100000 in
theorem spec_BytesSame.calls (k : Nat) (A0 : Option Addr) (c0 : Nat) (l0 : List Int) (A1 : Option Addr) (c1 : Nat) (l1 : List Int) (r : Bool) (w : World) (hr0 : Kd.C (Kd.int .u8) w A0 l0.length l0) (hc0 : l0.length ≤ c0) (hr1 : Kd.C (Kd.int .u8) w A1 l1.length l1) (hc1 : l1.length ≤ c1) (h : spec_BytesSame.f k l0 l1 = some r) :
    Calls Try.prog 14 #[.slice A0 l0.length c0, .slice A1 l1.length c1] w fun e w' => e = .returned (.bool r) ∧ Drawn0 w w' := by
  have HR0 := Aside0.mk hr0
  have HC0 := Aside0.mk hc0
  clear hr0 hc0
  have HR1 := Aside0.mk hr1
  have HC1 := Aside0.mk hc1
  clear hr1 hc1
  have H : ((spec_BytesCompare.f k l0 l1).bind fun t139 => (some (t139 == 0))) = some r := h
  clear h
  replace H := Option.bind_eq_some_iff.mp H
  obtain ⟨t139, A30, H⟩ := H
  replace H : (some (t139 == 0)) = some r := H
  have A3 := Aside0.mk A30
  clear A30
  obtain rfl := Option.some.inj H
  go_enter Try.func14, Try.ntmps14
  go_wp2_with (first | ((with_reducible refine gate_callee (f := 28) rfl ?_); refine goesL_ (some 7) rfl rfl Try.func28 (by kernel_rfl) rfl #[.slice A0 l0.length c0, .slice A1 l1.length c1] rfl (by (try simp only [List.map_toArray, List.map_cons, List.map_nil]); first | done | rfl | (simp only [List.length_drop, List.length_take]; rfl)) ?_; (with_reducible refine (spec_BytesCompare.calls k _ _ l0 _ _ l1 t139 _ ?side1 ?side2 ?side3 ?side4 A3.out).mono ?_); (case side1 => repeat (first | exact HR0.out | (with_reducible refine Kd.C_alloc ?_ _) | (with_reducible refine Kd.C_drewN ?_ _) | (with_reducible refine Kd.C_drew ?_))); (case side2 => exact HC0.out); (case side3 => repeat (first | exact HR1.out | (with_reducible refine Kd.C_alloc ?_ _) | (with_reducible refine Kd.C_drewN ?_ _) | (with_reducible refine Kd.C_drew ?_))); (case side4 => exact HC1.out); rintro e w' ⟨rfl, ⟨nd, rfl⟩⟩; refine ⟨_, rfl, ?_⟩))
  go_ret
  exact ⟨by first | rfl | (simp; done) | (simp [*]; done), by repeat (first | exact Drawn0.refl _ | apply Drawn0.step)⟩

end Go.Proofs.Ytddjenmengipkaa.PFnBatchLoads
