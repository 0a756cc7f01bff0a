/- Batches: goleveldb's decoder. -/
import Derived.Test.YtddjenmengipkaaBtDecP
import Derived.Laws.Panics
import Derived.Laws.PanicsMore
namespace Go.Proofs.Ytddjenmengipkaa.Bt
open Go.RowKit Go.Proofs.YtddjenmengipkaaW.PrintWords Go.Proofs.YtddjenmengipkaaW.PrintMore Go.Proofs.Ytddjenmengipkaa.PFnBatchLoads Go.Proofs.Ytddjenmengipkaa.Cmp
set_option linter.unusedVariables false

def DecTold (base g : Nat) (vd : Value) (A : Option Addr) (l : List Int) (R : Option (List Rec)) (w : World) (e : Ending) (w' : World) : Prop := Below base w w' ∧ match R with
  | some rs => e = .returned .nilIface ∧ (∃ vi cs, BatS w' base g vd vi rs.length cs ∧ IxW l cs rs) ∧ Kd.C (Kd.int .u8) w' A l.length l
  | none => (∃ t v, e = .returned (.iface t v)) ∨ ∃ t v, e = .panicked [{ v := .iface t v, recovered := false }]

/-- where the decoder stands: at a place in the bytes, or run over (then there are no records) -/
def DecAt (l : List Int) (R : Option (List Rec)) (o : Int) (cs : List Value) (rs : List Rec) : Prop :=
  (0 ≤ o ∧ o ≤ l.length ∧ (rs.length : Int) ≤ o ∧ IxW l cs rs ∧ ∃ f : Nat, (l.length : Int) - o ≤ f ∧ (rdI f (l.drop o.toNat)).map (rs ++ ·) = R) ∨ (o < 0 ∧ -9223372036854775808 ≤ o ∧ R = none)

theorem bounds_neg {α : Type} {P : Program} {W : World} (x y : Int) (code : BoundsCode) (h : x < 0) :
    (boundsPanic .i64 x y code : Sem α).run P W = .halt (.panic (boundsValue P (IntKind.i64.wrap x) y true code.toNat)) W := by
  have g : ¬ 0 ≤ x := by omega
  simp [boundsPanic, boundsValue, runtimePanic, goPanic, go_sem, g]

theorem index_neg {A : Option Addr} {n c : Nat} {o : Int} {W : World} (ho : o < 0) (hnil : A = none → n = 0) :
    (Instr.indexAt 22 (.slice A n c) (.int .i64 o)).run Try.prog W = .halt (.panic (boundsValue Try.prog (IntKind.i64.wrap o) n true BoundsCode.index.toNat)) W := by
  have hu : Try.prog.underlying 22 = some (.slice (Try.prog.elem 22)) := by kernel_rfl
  cases A with
  | some a =>
    rw [run_indexAt_slice (h := hu), if_neg (by omega)]
    exact bounds_neg o n .index ho
  | none =>
    obtain rfl := hnil rfl
    have e : (Instr.indexAt 22 (.slice none 0 c) (.int .i64 o)).run Try.prog W = (boundsPanic .i64 o 0 .index).run Try.prog W := by
      simp [Instr.indexAt, run_underlying hu, asIntOf]
    rw [e]
    exact bounds_neg o 0 .index ho

theorem slice_neg {A : Option Addr} {n c : Nat} {o : Int} {W : World} (ho : o < 0) :
    (Instr.slice 22 (.slice A n c) (some (.int .i64 o)) none none).run Try.prog W = .halt (.panic (boundsValue Try.prog (IntKind.i64.wrap o) n true BoundsCode.sliceB.toNat)) W := by
  have hu : Try.prog.underlying 22 = some (.slice (Try.prog.elem 22)) := by kernel_rfl
  refine run_slice_of_bounds _ _ _ _ _ _ _ _ hu ?_
  have hb := bounds_neg (P := Try.prog) (W := W) (α := Nat) o n .sliceB ho
  have g : ¬ (0 ≤ o ∧ o ≤ (n : Int)) := by omega
  simp [Instr.sliceBounds, Instr.sliceBound, asIntOf, g, hb, go_sem]

/-- bytes stay where their block stays -/
theorem C_same {w w' : World} {A : Option Addr} {n : Nat} {l : List Int} (h : Kd.C (Kd.int .u8) w A n l) (hb : ∀ a, A = some a → w'.heap[a.block]? = w.heap[a.block]?) : Kd.C (Kd.int .u8) w' A n l := by
  obtain ⟨h1, h2, h3⟩ := C_ints h
  refine ints_C ⟨h1, h2, fun hn => ?_⟩
  obtain ⟨a, ha, hc⟩ := h3 hn
  refine ⟨a, ha, fun j hj => ?_⟩
  rw [← hc j hj]
  have e : (a.add j).block = a.block := by unfold Addr.add; split <;> rfl
  unfold World.cell?
  rw [e, hb a ha]

/-- what the decoder's round leaves as it is -/
structure Dec (w W : World) (base g gv : Nat) (vd vi : Value) (n : Nat) (cs : List Value) (A : Option Addr) (l : List Int) : Prop where
  bat : BatS W base g vd vi n cs
  cap : W.heap[gv]? = some (.cells #[.pointer (some ⟨g, 0, none⟩)] 42 (0, 0))
  low : Below base w W
  ne : some w.heap.size ≠ vi.ownBlock
  hg : g < w.heap.size
  hgv : gv < w.heap.size
  hb : base ≤ w.heap.size
  data : Kd.C (Kd.int .u8) W A l.length l
  blk : ∀ a, A = some a → a.block < w.heap.size ∧ a.block ≠ g ∧ some a.block ≠ vi.ownBlock

theorem Dec.set {w W : World} {base g gv : Nat} {vd vi : Value} {n : Nat} {cs : List Value} {A : Option Addr} {l : List Int} (h : Dec w W base g gv vd vi n cs A l) (i : Nat) (u : Value) : Dec w (W.setCell ⟨w.heap.size, i, none⟩ u) base g gv vd vi n cs A l := by
  obtain ⟨il, hc⟩ := h.bat.cells
  exact ⟨⟨⟨il, blk_far hc (p := ⟨w.heap.size, i, none⟩) (Nat.ne_of_lt h.hg) u⟩, own_setCell (p := ⟨w.heap.size, i, none⟩) h.bat.row h.ne u, h.bat.at_⟩, blk_far h.cap (p := ⟨w.heap.size, i, none⟩) (Nat.ne_of_lt h.hgv) u, h.low.setCell (p := ⟨w.heap.size, i, none⟩) h.hb u, h.ne, h.hg, h.hgv, h.hb,
    C_same h.data (fun a ha => Below.heap_setCell _ _ _ _ (Nat.ne_of_lt (h.blk a ha).1)), h.blk⟩

theorem Dec.below {w W W1 : World} {base g gv : Nat} {vd vi : Value} {n : Nat} {cs : List Value} {A : Option Addr} {l : List Int} (h : Dec w W base g gv vd vi n cs A l) (hb : Below W.heap.size W W1) : Dec w W1 base g gv vd vi n cs A l :=
  ⟨h.bat.below hb, (hb.block gv (blk_lt h.cap)).trans h.cap, below_then h.low (Nat.le_trans h.hb h.low.size) hb, h.ne, h.hg, h.hgv, h.hb, Kd.C_below h.data hb, h.blk⟩

theorem ix_cells (a b c d e : Nat) : (Ix.mk a b c d e).cells = [.int .u64 a, .int .i64 b, .int .i64 c, .int .i64 d, .int .i64 e] := rfl

theorem Dec.put {w W : World} {base g gv : Nat} {vd vi : Value} {n : Nat} {cs : List Value} {a b c d e : Int} {t : TypeId} {A : Option Addr} {l : List Int} (h : Dec w W base g gv vd vi n cs A l) (hx : W.heap[w.heap.size]? = some (.cells #[.int .u64 a, .int .i64 b, .int .i64 c, .int .i64 d, .int .i64 e] t (0, 0))) (hn : n ≤ 4294967296) (i : Int) (ha : 0 ≤ a) (hb : 0 ≤ b) (hc : 0 ≤ c) (hd : 0 ≤ d) (he : 0 ≤ e) :
    Calls Try.prog 36 #[.int .i64 i, .agg #[.int .u64 a, .int .i64 b, .int .i64 c, .int .i64 d, .int .i64 e], .pointer (some ⟨gv, 0, none⟩)] W fun o w' => o = .returned .nilIface ∧ ∃ vi', Hid (Dec w w' base g gv vd vi' (n + 1) (cs ++ (Ix.mk a.toNat b.toNat c.toNat d.toNat e.toNat).cells) A l) ∧ Hid (w'.heap[w.heap.size]? = some (.cells (Ix.mk a.toNat b.toNat c.toNat d.toNat e.toNat).cells.toArray t (0, 0))) := by
  refine (put_int h.bat (Nat.le_trans h.hb h.low.size) hn h.cap i a b c d e ha hb hc hd he).mono ?_
  rintro o w' ⟨rfl, hlow, hcap, vi', hbat, hoth⟩
  have := hoth w.heap.size (blk_lt hx) h.ne (Nat.ne_of_gt h.hg)
  have hlt : w.heap.size ≤ W.heap.size := h.low.size
  refine ⟨rfl, vi', ⟨hbat, hcap.trans h.cap, h.low.trans hlow, this.2, h.hg, h.hgv, h.hb, C_same h.data (fun q hq => (hoth q.block (Nat.lt_of_lt_of_le (h.blk q hq).1 hlt) (h.blk q hq).2.2 (h.blk q hq).2.1).1), fun q hq => ⟨(h.blk q hq).1, (h.blk q hq).2.1, (hoth q.block (Nat.lt_of_lt_of_le (h.blk q hq).1 hlt) (h.blk q hq).2.2 (h.blk q hq).2.1).2⟩⟩, this.1.trans ?_⟩
  rw [ix_cells, Int.toNat_of_nonneg ha, Int.toNat_of_nonneg hb, Int.toNat_of_nonneg hc, Int.toNat_of_nonneg hd, Int.toNat_of_nonneg he]
  exact hx

theorem ix_fit {l : List Int} {a b c d : Nat} (h1 : a + b ≤ l.length) (h2 : c + d ≤ l.length) : Ix.Is l ⟨1, a, b, c, d⟩ (false, (l.drop a).take b, (l.drop c).take d) :=
  ⟨h1, h2, rfl, rfl, Or.inl ⟨rfl, rfl⟩⟩

theorem ix_del {l : List Int} {a b : Nat} (h1 : a + b ≤ l.length) : Ix.Is l ⟨0, a, b, 0, 0⟩ (true, (l.drop a).take b, []) :=
  ⟨h1, Nat.zero_le _, rfl, by simp, Or.inr ⟨rfl, rfl, rfl⟩⟩

theorem uv_small {l : List Int} {X : Int} {m : Nat} (hb : Byt l) (hf : farI 0 l = false) (h : uvI l = some (X, m)) : 1 ≤ m ∧ m ≤ l.length ∧ 0 ≤ X ∧ X < 9223372036854775808 := by
  obtain ⟨f1, f2, f3, f4⟩ := uv_facts l X m hb h
  have f5 := (far_uv l 0 (by omega) hf).1 X m h
  refine ⟨f1, f2, f3, ?_⟩
  have e : (2 : Nat) ^ (7 * m) ≤ 2 ^ 63 := Nat.pow_le_pow_right (by decide) (by omega)
  have e2 : (2 : Int) ^ (7 * m) = ((2 ^ (7 * m) : Nat) : Int) := (Int.natCast_pow 2 _).symm
  rw [e2] at f4
  have e3 : (2 : Nat) ^ 63 = 9223372036854775808 := by decide
  omega

theorem meas_lt {n : Nat} {a b : Int} (h : (b < 0 ∨ a < b) ∧ 0 ≤ a ∧ a ≤ n) : (if b < 0 then 0 else n + 1 - b.toNat) < (if a < 0 then 0 else n + 1 - a.toNat) := by
  have g : ¬ a < 0 := by omega
  rw [if_neg g]
  by_cases hb : b < 0
  · rw [if_pos hb]; omega
  · rw [if_neg hb]; omega

theorem key_fit {l : List Int} {p m : Nat} {X : Int} (hu : uvI (l.drop p) = some (X, m)) (h0 : 0 ≤ X) (hfit : (p : Int) + m + X ≤ l.length) : szI (l.drop p) = some ((l.drop (p + m)).take X.toNat, l.drop (p + m + X.toNat)) := by
  obtain ⟨x, rfl⟩ := Int.eq_ofNat_of_zero_le h0
  rw [Int.toNat_natCast]
  exact sz_fit hu (by omega)

theorem fit_del {l : List Int} {R : Option (List Rec)} {rs : List Rec} {cs : List Value} {p m f : Nat} {X : Int} (hp : p < l.length) (hy : l.getD p 0 = 0) (hu : uvI (l.drop (p + 1)) = some (X, m)) (h0 : 0 ≤ X) (hm : 1 ≤ m) (hfit : (p : Int) + 1 + m + X ≤ l.length)
    (h5 : (rdI (f + 1) (l.drop p)).map (rs ++ ·) = R) (h4 : (l.length : Int) - p ≤ (f + 1 : Nat)) (hi : IxW l cs rs) (hr : (rs.length : Int) ≤ p) :
    ∃ r, DecAt l R ((p : Int) + 1 + m + X) (cs ++ (Ix.mk (0 : Int).toNat ((p : Int) + 1 + m).toNat X.toNat (0 : Int).toNat (0 : Int).toNat).cells) (rs ++ [r]) := by
  have hs := key_fit hu h0 (by omega)
  rw [rd_del hp hy hs] at h5
  have e1 : ((p : Int) + 1 + m).toNat = p + 1 + m := by omega
  have e2 : ((p : Int) + 1 + m + X).toNat = p + 1 + m + X.toNat := by omega
  refine ⟨_, Or.inl ⟨by omega, hfit, by rw [List.length_append, List.length_singleton]; omega, IxW.step hi (r := (true, (l.drop (p + 1 + m)).take X.toNat, [])) ?_, f, by omega, ?_⟩⟩
  · rw [e1]
    exact ix_del (by omega)
  · rw [e2]
    exact map_step h5

theorem fit_put {l : List Int} {R : Option (List Rec)} {rs : List Rec} {cs : List Value} {p m k f : Nat} {X Y : Int} (hp : p < l.length) (hy : l.getD p 0 = 1) (hu : uvI (l.drop (p + 1)) = some (X, m)) (h0 : 0 ≤ X) (hm : 1 ≤ m) (hu2 : uvI (l.drop ((p : Int) + 1 + m + X).toNat) = some (Y, k)) (h02 : 0 ≤ Y) (hfit : (p : Int) + 1 + m + X + k + Y ≤ l.length)
    (h5 : (rdI (f + 1) (l.drop p)).map (rs ++ ·) = R) (h4 : (l.length : Int) - p ≤ (f + 1 : Nat)) (hi : IxW l cs rs) (hr : (rs.length : Int) ≤ p) :
    ∃ r, DecAt l R ((p : Int) + 1 + m + X + k + Y) (cs ++ (Ix.mk (1 : Int).toNat ((p : Int) + 1 + m).toNat X.toNat ((p : Int) + 1 + m + X + k).toNat Y.toNat).cells) (rs ++ [r]) := by
  have hs := key_fit hu h0 (by omega)
  have e1 : ((p : Int) + 1 + m).toNat = p + 1 + m := by omega
  have e2 : ((p : Int) + 1 + m + X).toNat = p + 1 + m + X.toNat := by omega
  have e3 : ((p : Int) + 1 + m + X + k).toNat = p + 1 + m + X.toNat + k := by omega
  have e4 : ((p : Int) + 1 + m + X + k + Y).toNat = p + 1 + m + X.toNat + k + Y.toNat := by omega
  rw [e2] at hu2
  have hs2 := key_fit hu2 h02 (by omega)
  rw [rd_put hp hy hs hs2] at h5
  refine ⟨_, Or.inl ⟨by omega, hfit, by rw [List.length_append, List.length_singleton]; omega, IxW.step hi (r := (false, (l.drop (p + 1 + m)).take X.toNat, (l.drop (p + 1 + m + X.toNat + k)).take Y.toNat)) ?_, f, by omega, ?_⟩⟩
  · rw [e1, e3]
    exact ix_fit (by omega) (by omega)
  · rw [e4]
    exact map_step h5

theorem not_put {l : List Int} {R : Option (List Rec)} {rs : List Rec} {p m f : Nat} {X : Int} (hp : p < l.length) (hy : l.getD p 0 = 1) (hu : uvI (l.drop (p + 1)) = some (X, m)) (h0 : 0 ≤ X) (hfit : (p : Int) + 1 + m + X ≤ l.length)
    (hs2 : szI (l.drop ((p : Int) + 1 + m + X).toNat) = none) (h5 : (rdI (f + 1) (l.drop p)).map (rs ++ ·) = R) : R = none := by
  have hs := key_fit hu h0 (by omega)
  have e2 : ((p : Int) + 1 + m + X).toNat = p + 1 + m + X.toNat := by omega
  rw [e2] at hs2
  rw [rd_put_none hp hy hs hs2] at h5
  exact h5.symm

set_option maxHeartbeats 1600000 in
set_option maxRecDepth 100000 in
theorem decode_calls {w : World} {base g gv : Nat} {vd vi : Value} {A : Option Addr} {c : Nat} {l : List Int} (h : Kd.C (Kd.int .u8) w A l.length l) (h1 : ∀ a, A = some a → a.block < w.heap.size ∧ a.block ≠ g ∧ some a.block ≠ vi.ownBlock) (hbase : base ≤ w.heap.size) (hc : l.length ≤ c) (hb : Byt l) (hl : l.length ≤ 4294967296) (hf : farI 0 l = false)
    (hG : BatS w base g vd vi 0 []) (hcap : w.heap[gv]? = some (.cells #[.pointer (some ⟨g, 0, none⟩)] 42 (0, 0))) :
    Calls Try.prog 35 #[.slice A l.length c, .func (.func 36) #[] #[.pointer (some ⟨gv, 0, none⟩)]] w (DecTold base g vd A l (rdI l.length l) w) := by
  have HA := Lib.hid h
  have H1 := Lib.hid h1
  have HBY := Lib.hid (show Byt l ∧ farI 0 l = false from ⟨hb, hf⟩)
  generalize hr0 : rdI l.length l = R
  have hr : Hid (DecAt l R 0 [] []) := Lib.hid (Or.inl ⟨by omega, by omega, by simp, IxW.nil, l.length, by omega, by rw [show ((0 : Int).toNat) = 0 from rfl, List.drop_zero, hr0]; cases R <;> simp⟩)
  have HG := Lib.hid hG
  have HV := Lib.hid hcap
  clear h h1 hb hf hr0 hG hcap
  generalize hn : l.length = n at *
  have HN := Lib.hid hn
  clear hn
  go_enter Try.func35, Try.ntmps35
  go_wp2
  go_loopw [6, 7] (fun v6 v7 wr => ∃ (i o : Int) (x : Ix) (vi : Value) (cs : List Value) (rs : List Rec), v6 = .int .i64 i ∧ v7 = .int .i64 o ∧ 0 ≤ i ∧ i = rs.length ∧ rs.length ≤ n + 1 ∧ Hid (DecAt l R o cs rs) ∧ Hid (Dec w wr base g gv vd vi rs.length cs A l) ∧ Hid (wr.heap[w.heap.size]? = some (.cells x.cells.toArray 73 (0, 0)))) (fun _ v7 _ => if intOf v7 < 0 then 0 else n + 1 - (intOf v7).toNat)
  case atStart =>
    have hb1 := below_alloc (Below.refl w.heap.size w) (.cells (Ix.cells ⟨0, 0, 0, 0, 0⟩).toArray 73)
    exact ⟨0, 0, ⟨0, 0, 0, 0, 0⟩, vi, [], [], rfl, rfl, by omega, rfl, by simp, hr, Lib.hid ⟨HG.out.below hb1, (hb1.block gv (blk_lt HV.out)).trans HV.out, hb1.mono hbase, own_far HG.out.row (Nat.le_refl _), by obtain ⟨il, q⟩ := HG.out.cells; exact blk_lt q, blk_lt HV.out, hbase, by rw [HN.out]; exact Kd.C_below HA.out hb1, H1.out⟩, Lib.hid (blk_new w _)⟩
  case round =>
    obtain ⟨i, o, x, vi, cs, rs, rfl, rfl, hi0, rfl, hil, HD, HM, HX⟩ := hrel
    clear hr HG HV HA H1
    have HA : Hid (Kd.C (Kd.int .u8) wr A n l) := by have := HM.out.data; rw [HN.out] at this; exact this
    by_cases hend : (n : Int) ≤ o
    · have hx : R = some rs ∧ IxW l cs rs := by
        rcases HD.out with ⟨o0, o1, o2, h3, f, h4, h5⟩ | ⟨o0, _⟩
        · rw [rd_end (by rw [HN.out]; omega)] at h5
          simp only [Option.map_some, List.append_nil] at h5
          exact ⟨h5.symm, h3⟩
        · omega
      obtain ⟨rfl, hix⟩ := hx
      have HI := Lib.hid hix
      clear hix HD
      go_wp2
      go_ret
      exact ⟨HM.out.low, rfl, ⟨vi, cs, HM.out.bat, HI.out⟩, HM.out.data⟩
    · have hlt : o < (n : Int) := by omega
      by_cases ho : o < 0
      · have hx : R = none := by
          rcases HD.out with ⟨o0, _⟩ | ⟨_, _, h3⟩
          · omega
          · exact h3
        subst hx
        clear HD
        have hnil : A = none → n = 0 := fun e => by
          rcases Nat.eq_zero_or_pos n with q | q
          · exact q
          · obtain ⟨ad, had⟩ := C_some HA.out (by omega)
            rw [e] at had
            cases had
        have hdie := index_neg (c := c) (W := wr) ho hnil
        go_wp2
        exact ⟨rfl, HM.out.low, Or.inr ⟨_, _, rfl⟩⟩
      · obtain ⟨o0, o1, o2, h3, f, h4, h5⟩ : 0 ≤ o ∧ o ≤ (l.length : Int) ∧ (rs.length : Int) ≤ o ∧ IxW l cs rs ∧ ∃ f : Nat, (l.length : Int) - o ≤ f ∧ (rdI f (l.drop o.toNat)).map (rs ++ ·) = R := by
          rcases HD.out with q | ⟨q, _⟩
          · exact q
          · omega
        clear HD
        obtain ⟨p, rfl⟩ := Int.eq_ofNat_of_zero_le o0
        have hp : p < n := by omega
        rw [Int.toNat_natCast] at h5
        obtain ⟨f, rfl⟩ : ∃ q, f = q + 1 := ⟨f - 1, by rw [HN.out] at h4; omega⟩
        have HI := Lib.hid h3
        have H5 := Lib.hid h5
        have H4 := Lib.hid h4
        have HL := Lib.hid o2
        clear h3 h5 h4 o0 o1 o2
        obtain ⟨ad, rfl, hcell⟩ := (C_ints HA.out).2.2 (by omega)
        have k0 := hcell p hp
        have hby := HBY.out.1 (l.getD p 0) (getD_mem l p (by rw [HN.out]; exact hp))
        clear hcell
        by_cases hbad : 1 < l.getD p 0
        · have hx := H5.out
          rw [rd_bad (by rw [HN.out]; exact hp) hbad] at hx
          simp only [Option.map_none] at hx
          subst hx
          clear H5
          obtain ⟨kt, kp, kl, vp, vl⟩ := x
          have z0 := blk_cell HX.out 0
          have z1 := blk_frozen HX.out 0
          simp only [Ix.cells, List.getElem?_toArray, List.getElem?_cons_zero, List.getElem?_cons_succ] at z0
          generalize l.getD p 0 = y at *
          go_wp2_with (go_at_call 37; refine (newErr_calls _).mono ?_; rintro e w1 ⟨⟨t1, v1, rfl⟩, hb1⟩)
          go_ret
          exact ⟨((HM.out.set 0 (Value.int .u64 y)).below hb1).low, Or.inl ⟨_, _, rfl⟩⟩
        · obtain ⟨vc, t1, t2⟩ := drop_of (some ad) c l .i64 ((p + 1 : Nat) : Int) (by omega) (by rw [HN.out]; omega) (by rw [HN.out]; exact hc)
          rw [Int.toNat_natCast] at t2
          obtain ⟨A1, c1, rfl, _, _⟩ := t2 wr (by rw [HN.out]; exact HA.out)
          have T2 := Lib.hid t2
          clear t2
          rw [HN.out] at t1
          simp only [Int.natCast_add, Int.natCast_one] at t1
          have hU : Hid (∀ W, Kd.C (Kd.int .u8) W (some ad) l.length l → Calls Try.prog 40 #[.slice A1 (l.drop (p + 1)).length c1] W fun e w' => e = .returned (.tuple #[.int .u64 (told (uvI (l.drop (p + 1)))).1, .int .i64 (told (uvI (l.drop (p + 1)))).2]) ∧ Below W.heap.size W w') :=
            Lib.hid (fun W hW => by
              obtain ⟨A', c', e, hk, hc'⟩ := T2.out W hW
              injection e with e1 _ e3
              subst e1 e3
              exact Uvarint_r hk hc' (byt_drop HBY.out.1 _) (by rw [List.length_drop, HN.out]; omega) (far_drop l HBY.out.2 _))
          have hz := HX.out
          obtain ⟨kt, kp, kl, vp, vl⟩ := x
          have z0 := blk_cell hz 0
          have z1 := blk_frozen hz 0
          simp only [Ix.cells, List.getElem?_toArray, List.getElem?_cons_zero, List.getElem?_cons_succ] at z0
          obtain ⟨y, hy, hy1⟩ : ∃ y : Int, l.getD p 0 = y ∧ 0 ≤ y ∧ ¬ 1 < y := ⟨_, rfl, hby.1, hbad⟩
          rw [hy] at k0
          have HY := Lib.hid hy
          clear hby hbad hy hz
          have HB1 := Lib.hid (show ((wr.setCell ⟨w.heap.size, 0, none⟩ (.int .u64 y)).heap[w.heap.size]? = some (.cells #[.int .u64 y, .int .i64 kp, .int .i64 kl, .int .i64 vp, .int .i64 vl] 73 (0, 0))) from (blk_set HX.out 0 _).trans rfl)
          have HM1 := Lib.hid (HM.out.set 0 (.int .u64 y))
          have HW1 := Lib.hid HM1.out.data
          have HA2 := HA
          clear HM HX HA
          generalize hq : (l.drop (p + 1)).length = q at *
          have hqn : q + (p + 1) = n := by rw [← hq, List.length_drop, HN.out]; omega
          have HQ := Lib.hid hq
          clear hq
          have hpn : p + 1 ≤ n := by omega
          cases hu : uvI (l.drop (p + 1)) with
          | none =>
            rw [hu] at hU
            have hx := H5.out
            rw [rd_none (by rw [HN.out]; exact hp) (sz_none hu)] at hx
            simp only [Option.map_none] at hx
            subst hx
            have hU : Hid (∀ W, Kd.C (Kd.int .u8) W (some ad) l.length l → Calls Try.prog 40 #[.slice A1 q c1] W fun e w' => e = .returned (.tuple #[.int .u64 0, .int .i64 0]) ∧ Below W.heap.size W w') := hU
            clear H5 hu hqn
            go_wp2_with (first
              | (go_at_call 40; (with_reducible refine (hU.out _ HW1.out).mono ?_); rintro e w1 ⟨rfl, hb1⟩; have hk := (hb1.block w.heap.size (blk_lt HB1.out)).trans HB1.out; have e0 := blk_cell hk 0; simp only [List.getElem?_toArray, List.getElem?_cons_zero] at e0; clear hk)
              | (go_at_call 37; (with_reducible refine (newErr_calls _).mono ?_); rintro e w2 ⟨⟨t2, v2, rfl⟩, hb2⟩))
            go_ret
            exact ⟨((HM1.out.below hb1).below hb2).low, Or.inl ⟨_, _, rfl⟩⟩
          | some r =>
            obtain ⟨X, m⟩ := r
            have uf := uv_small (byt_drop HBY.out.1 _) (far_drop l HBY.out.2 _) hu
            have hx0 : 0 ≤ X := uf.2.2.1
            have hm1 : 1 ≤ m := uf.1
            have hmq : (p : Int) + 1 + m ≤ n := by have := uf.2.1; rw [HQ.out] at this; omega
            have hx63 : X < 9223372036854775808 := uf.2.2.2
            rw [hu] at hU
            have hU : Hid (∀ W, Kd.C (Kd.int .u8) W (some ad) l.length l → Calls Try.prog 40 #[.slice A1 q c1] W fun e w' => e = .returned (.tuple #[.int .u64 X, .int .i64 (m : Int)]) ∧ Below W.heap.size W w') := hU
            have HU := Lib.hid hu
            have HQN := Lib.hid hqn
            clear hu uf hqn
            by_cases hov : (n : Int) < (p : Int) + 1 + m + X
            · have hx : R = none := by
                have hx := H5.out
                rw [rd_none (by rw [HN.out]; exact hp) (sz_over HU.out (by rw [HN.out]; omega) (by rw [HN.out]; push_cast; omega))] at hx
                exact hx.symm
              subst hx
              clear H5
              by_cases hsm : (p : Int) + 1 + m + X < 9223372036854775808
              · go_wp2_with (first
                  | (go_at_call 40; (with_reducible refine (hU.out _ HW1.out).mono ?_); rintro e w1 ⟨rfl, hb1⟩; have hk := (hb1.block w.heap.size (blk_lt HB1.out)).trans HB1.out; have e0 := blk_cell hk 0; simp only [List.getElem?_toArray, List.getElem?_cons_zero] at e0; clear hk)
                  | (go_at_call 37; (with_reducible refine (newErr_calls _).mono ?_); rintro e w2 ⟨⟨t2, v2, rfl⟩, hb2⟩))
                go_ret
                exact ⟨((HM1.out.below hb1).below hb2).low, Or.inl ⟨_, _, rfl⟩⟩
              · have hrn : rs.length ≤ n := by have := HL.out; omega
                obtain ⟨z, hz, hz0, hz1⟩ : ∃ z, wrap64 ((p : Int) + 1 + m + X) = z ∧ z < 0 ∧ -9223372036854775808 ≤ z := ⟨_, rfl, by unfold wrap64; omega, by unfold wrap64; omega⟩
                by_cases hy0 : y = 0
                · subst hy0
                  go_wp2_with (first
                    | (go_at_call 40; (with_reducible refine (hU.out _ HW1.out).mono ?_); rintro e w1 ⟨rfl, hb1⟩; have hk := Lib.hid ((hb1.block w.heap.size (blk_lt HB1.out)).trans HB1.out); have e0 := blk_cell hk.out 0; have e1 := blk_cell hk.out 1; have e2 := blk_cell hk.out 2; have e3 := blk_cell hk.out 3; have e4 := blk_cell hk.out 4; have f1 := blk_frozen hk.out 1; have f2 := blk_frozen hk.out 2; have f3 := blk_frozen hk.out 3; have f4 := blk_frozen hk.out 4; simp only [List.getElem?_toArray, List.getElem?_cons_zero, List.getElem?_cons_succ] at e0 e1 e2 e3 e4)
                    | (go_at_call 36; have hk5 := (blk_set (blk_set (blk_set (blk_set hk.out 1 (.int .i64 ((p : Int) + 1 + m))) 2 (.int .i64 X)) 3 (.int .i64 0)) 4 (.int .i64 0)).trans (show _ = some (Obj.cells #[.int .u64 0, .int .i64 ((p : Int) + 1 + m), .int .i64 X, .int .i64 0, .int .i64 0] 73 (0, 0)) from rfl); (with_reducible refine (((((HM1.out.below hb1).set 1 _).set 2 _).set 3 _).set 4 _ |>.put hk5 (by omega) _ (by omega) (by omega) (by omega) (by omega) (by omega)).mono ?_); rintro e w2 ⟨rfl, vi2, HM2, HX2⟩))
                  go_roundw
                  case rel => exact ⟨(rs.length : Int) + 1, z, _, vi2, _, rs ++ [(true, [], [])], rfl, rfl, by omega, by rw [List.length_append, List.length_singleton]; omega, by rw [List.length_append, List.length_singleton]; omega, Lib.hid (Or.inr ⟨hz0, hz1, rfl⟩), by rw [List.length_append, List.length_singleton]; exact HM2, HX2⟩
                  case measure => exact meas_lt (a := (p : Int)) (b := z) (by omega)
                · obtain rfl : y = 1 := by omega
                  have hdie := fun W : World => slice_neg (A := some ad) (n := n) (c := c) (W := W) hz0
                  go_wp2_with (first
                    | (go_at_call 40; (with_reducible refine (hU.out _ HW1.out).mono ?_); rintro e w1 ⟨rfl, hb1⟩; have hk := Lib.hid ((hb1.block w.heap.size (blk_lt HB1.out)).trans HB1.out); have e0 := blk_cell hk.out 0; have e1 := blk_cell hk.out 1; have e2 := blk_cell hk.out 2; have e3 := blk_cell hk.out 3; have e4 := blk_cell hk.out 4; have f1 := blk_frozen hk.out 1; have f2 := blk_frozen hk.out 2; have f3 := blk_frozen hk.out 3; have f4 := blk_frozen hk.out 4; simp only [List.getElem?_toArray, List.getElem?_cons_zero, List.getElem?_cons_succ] at e0 e1 e2 e3 e4))
                  exact ⟨rfl, (((HM1.out.below hb1).set 1 _).set 2 _).low, Or.inr ⟨_, _, rfl⟩⟩
            · have hfit : (p : Int) + 1 + m + X ≤ n := by omega
              have hrl := HL.out
              by_cases hy0 : y = 0
              · subst hy0
                obtain ⟨r, hr⟩ := fit_del (by rw [HN.out]; exact hp) HY.out HU.out hx0 hm1 (by rw [HN.out]; exact hfit) H5.out H4.out HI.out HL.out
                have HR2 := Lib.hid hr
                clear hr
                go_wp2_with (first
                  | (go_at_call 40; (with_reducible refine (hU.out _ HW1.out).mono ?_); rintro e w1 ⟨rfl, hb1⟩; have hk := Lib.hid ((hb1.block w.heap.size (blk_lt HB1.out)).trans HB1.out); have e0 := blk_cell hk.out 0; have e1 := blk_cell hk.out 1; have e2 := blk_cell hk.out 2; have e3 := blk_cell hk.out 3; have e4 := blk_cell hk.out 4; have f1 := blk_frozen hk.out 1; have f2 := blk_frozen hk.out 2; have f3 := blk_frozen hk.out 3; have f4 := blk_frozen hk.out 4; simp only [List.getElem?_toArray, List.getElem?_cons_zero, List.getElem?_cons_succ] at e0 e1 e2 e3 e4)
                  | (go_at_call 36; have hk5 := (blk_set (blk_set (blk_set (blk_set hk.out 1 (.int .i64 ((p : Int) + 1 + m))) 2 (.int .i64 X)) 3 (.int .i64 0)) 4 (.int .i64 0)).trans (show _ = some (Obj.cells #[.int .u64 0, .int .i64 ((p : Int) + 1 + m), .int .i64 X, .int .i64 0, .int .i64 0] 73 (0, 0)) from rfl); (with_reducible refine (((((HM1.out.below hb1).set 1 _).set 2 _).set 3 _).set 4 _ |>.put hk5 (by omega) _ (by omega) (by omega) (by omega) (by omega) (by omega)).mono ?_); rintro e w2 ⟨rfl, vi2, HM2, HX2⟩))
                go_roundw
                case rel => exact ⟨(rs.length : Int) + 1, (p : Int) + 1 + m + X, _, vi2, _, rs ++ [r], rfl, rfl, by omega, by rw [List.length_append, List.length_singleton]; omega, by rw [List.length_append, List.length_singleton]; omega, HR2, by rw [List.length_append, List.length_singleton]; exact HM2, HX2⟩
                case measure => exact meas_lt (a := (p : Int)) (b := ((p : Int) + 1 + m + X)) (by omega)
              · obtain rfl : y = 1 := by omega
                obtain ⟨vc2, s1, s2⟩ := drop_of (some ad) c l .i64 ((p : Int) + 1 + m + X) (by omega) (by rw [HN.out]; omega) (by rw [HN.out]; exact hc)
                obtain ⟨A2, c2, rfl, _, _⟩ := s2 wr (by rw [HN.out]; exact HA2.out)
                have S2 := Lib.hid s2
                clear s2
                rw [HN.out] at s1
                have hU2 : Hid (∀ W, Kd.C (Kd.int .u8) W (some ad) l.length l → Calls Try.prog 40 #[.slice A2 (l.drop ((p : Int) + 1 + m + X).toNat).length c2] W fun e w' => e = .returned (.tuple #[.int .u64 (told (uvI (l.drop ((p : Int) + 1 + m + X).toNat))).1, .int .i64 (told (uvI (l.drop ((p : Int) + 1 + m + X).toNat))).2]) ∧ Below W.heap.size W w') :=
                  Lib.hid (fun W hW => by
                    obtain ⟨A', c', e, hk, hc'⟩ := S2.out W hW
                    injection e with e1 _ e3
                    subst e1 e3
                    exact Uvarint_r hk hc' (byt_drop HBY.out.1 _) (by rw [List.length_drop, HN.out]; omega) (far_drop l HBY.out.2 _))
                have hlen := List.length_drop (i := ((p : Int) + 1 + m + X).toNat) (l := l)
                rw [HN.out] at hlen
                have HLEN := Lib.hid hlen
                clear hlen
                generalize hq2 : (l.drop ((p : Int) + 1 + m + X).toNat).length = q2 at *
                have HQ2 := Lib.hid hq2
                clear hq2
                cases hu2 : uvI (l.drop ((p : Int) + 1 + m + X).toNat) with
                | none =>
                  rw [hu2] at hU2
                  have hx := not_put (by rw [HN.out]; exact hp) HY.out HU.out hx0 (by rw [HN.out]; exact hfit) (sz_none hu2) H5.out
                  subst hx
                  have hU2 : Hid (∀ W, Kd.C (Kd.int .u8) W (some ad) l.length l → Calls Try.prog 40 #[.slice A2 q2 c2] W fun e w' => e = .returned (.tuple #[.int .u64 0, .int .i64 0]) ∧ Below W.heap.size W w') := hU2
                  clear H5 hu2
                  go_wp2_with (first
                    | (go_at_call 40; have hk3 := (blk_set (blk_set hk.out 1 (.int .i64 ((p : Int) + 1 + m))) 2 (.int .i64 X)).trans (show _ = some (Obj.cells #[.int .u64 1, .int .i64 ((p : Int) + 1 + m), .int .i64 X, .int .i64 vp, .int .i64 vl] 73 (0, 0)) from rfl); have HM3 := Lib.hid (((HM1.out.below hb1).set 1 (.int .i64 ((p : Int) + 1 + m))).set 2 (.int .i64 X)); (with_reducible refine (hU2.out _ HM3.out.data).mono ?_); rintro e w2 ⟨rfl, hb2⟩; have hj := Lib.hid ((hb2.block w.heap.size (blk_lt hk3)).trans hk3); clear e0 e1 e2 e3 e4 f1 f2 f3 f4 hk3; have e0 := blk_cell hj.out 0; have e1 := blk_cell hj.out 1; have e2 := blk_cell hj.out 2; have e3 := blk_cell hj.out 3; have e4 := blk_cell hj.out 4; have f3 := blk_frozen hj.out 3; have f4 := blk_frozen hj.out 4; simp only [List.getElem?_toArray, List.getElem?_cons_zero, List.getElem?_cons_succ] at e0 e1 e2 e3 e4)
                    | (go_at_call 40; (with_reducible refine (hU.out _ HW1.out).mono ?_); rintro e w1 ⟨rfl, hb1⟩; have hk := Lib.hid ((hb1.block w.heap.size (blk_lt HB1.out)).trans HB1.out); have e0 := blk_cell hk.out 0; have e1 := blk_cell hk.out 1; have e2 := blk_cell hk.out 2; have e3 := blk_cell hk.out 3; have e4 := blk_cell hk.out 4; have f1 := blk_frozen hk.out 1; have f2 := blk_frozen hk.out 2; have f3 := blk_frozen hk.out 3; have f4 := blk_frozen hk.out 4; simp only [List.getElem?_toArray, List.getElem?_cons_zero, List.getElem?_cons_succ] at e0 e1 e2 e3 e4)
                    | (go_at_call 37; (with_reducible refine (newErr_calls _).mono ?_); rintro e w3 ⟨⟨t3, v3, rfl⟩, hb3⟩))
                  go_ret
                  exact ⟨((HM3.out.below hb2).below hb3).low, Or.inl ⟨_, _, rfl⟩⟩
                | some r2 =>
                  obtain ⟨Y, k⟩ := r2
                  have uf := uv_small (byt_drop HBY.out.1 _) (far_drop l HBY.out.2 _) hu2
                  have hy0 : 0 ≤ Y := uf.2.2.1
                  have hk1 : 1 ≤ k := uf.1
                  have hkq : (p : Int) + 1 + m + X + k ≤ n := by have := uf.2.1; have e := HLEN.out; rw [HQ2.out, e] at this; omega
                  have hy63 : Y < 9223372036854775808 := uf.2.2.2
                  rw [hu2] at hU2
                  have hU2 : Hid (∀ W, Kd.C (Kd.int .u8) W (some ad) l.length l → Calls Try.prog 40 #[.slice A2 q2 c2] W fun e w' => e = .returned (.tuple #[.int .u64 Y, .int .i64 (k : Int)]) ∧ Below W.heap.size W w') := hU2
                  have HU2 := Lib.hid hu2
                  clear hu2 uf
                  by_cases hov2 : (n : Int) < (p : Int) + 1 + m + X + k + Y
                  · have hx := not_put (by rw [HN.out]; exact hp) HY.out HU.out hx0 (by rw [HN.out]; exact hfit) (sz_over HU2.out (by rw [HN.out]; omega) (by rw [HN.out]; omega)) H5.out
                    subst hx
                    clear H5
                    by_cases hsm : (p : Int) + 1 + m + X + k + Y < 9223372036854775808
                    · go_wp2_with (first
                        | (go_at_call 40; have hk3 := (blk_set (blk_set hk.out 1 (.int .i64 ((p : Int) + 1 + m))) 2 (.int .i64 X)).trans (show _ = some (Obj.cells #[.int .u64 1, .int .i64 ((p : Int) + 1 + m), .int .i64 X, .int .i64 vp, .int .i64 vl] 73 (0, 0)) from rfl); have HM3 := Lib.hid (((HM1.out.below hb1).set 1 (.int .i64 ((p : Int) + 1 + m))).set 2 (.int .i64 X)); (with_reducible refine (hU2.out _ HM3.out.data).mono ?_); rintro e w2 ⟨rfl, hb2⟩; have hj := Lib.hid ((hb2.block w.heap.size (blk_lt hk3)).trans hk3); clear e0 e1 e2 e3 e4 f1 f2 f3 f4 hk3; have e0 := blk_cell hj.out 0; have e1 := blk_cell hj.out 1; have e2 := blk_cell hj.out 2; have e3 := blk_cell hj.out 3; have e4 := blk_cell hj.out 4; have f3 := blk_frozen hj.out 3; have f4 := blk_frozen hj.out 4; simp only [List.getElem?_toArray, List.getElem?_cons_zero, List.getElem?_cons_succ] at e0 e1 e2 e3 e4)
                        | (go_at_call 40; (with_reducible refine (hU.out _ HW1.out).mono ?_); rintro e w1 ⟨rfl, hb1⟩; have hk := Lib.hid ((hb1.block w.heap.size (blk_lt HB1.out)).trans HB1.out); have e0 := blk_cell hk.out 0; have e1 := blk_cell hk.out 1; have e2 := blk_cell hk.out 2; have e3 := blk_cell hk.out 3; have e4 := blk_cell hk.out 4; have f1 := blk_frozen hk.out 1; have f2 := blk_frozen hk.out 2; have f3 := blk_frozen hk.out 3; have f4 := blk_frozen hk.out 4; simp only [List.getElem?_toArray, List.getElem?_cons_zero, List.getElem?_cons_succ] at e0 e1 e2 e3 e4)
                        | (go_at_call 37; (with_reducible refine (newErr_calls _).mono ?_); rintro e w3 ⟨⟨t3, v3, rfl⟩, hb3⟩))
                      go_ret
                      exact ⟨((HM3.out.below hb2).below hb3).low, Or.inl ⟨_, _, rfl⟩⟩
                    · obtain ⟨z, hz, hz0, hz1⟩ : ∃ z, wrap64 ((p : Int) + 1 + m + X + k + Y) = z ∧ z < 0 ∧ -9223372036854775808 ≤ z := ⟨_, rfl, by unfold wrap64; omega, by unfold wrap64; omega⟩
                      go_wp2_with (first
                        | (go_at_call 40; have hk3 := (blk_set (blk_set hk.out 1 (.int .i64 ((p : Int) + 1 + m))) 2 (.int .i64 X)).trans (show _ = some (Obj.cells #[.int .u64 1, .int .i64 ((p : Int) + 1 + m), .int .i64 X, .int .i64 vp, .int .i64 vl] 73 (0, 0)) from rfl); have HM3 := Lib.hid (((HM1.out.below hb1).set 1 (.int .i64 ((p : Int) + 1 + m))).set 2 (.int .i64 X)); (with_reducible refine (hU2.out _ HM3.out.data).mono ?_); rintro e w2 ⟨rfl, hb2⟩; have hj := Lib.hid ((hb2.block w.heap.size (blk_lt hk3)).trans hk3); clear e0 e1 e2 e3 e4 f1 f2 f3 f4 hk3; have e0 := blk_cell hj.out 0; have e1 := blk_cell hj.out 1; have e2 := blk_cell hj.out 2; have e3 := blk_cell hj.out 3; have e4 := blk_cell hj.out 4; have f3 := blk_frozen hj.out 3; have f4 := blk_frozen hj.out 4; simp only [List.getElem?_toArray, List.getElem?_cons_zero, List.getElem?_cons_succ] at e0 e1 e2 e3 e4)
                        | (go_at_call 40; (with_reducible refine (hU.out _ HW1.out).mono ?_); rintro e w1 ⟨rfl, hb1⟩; have hk := Lib.hid ((hb1.block w.heap.size (blk_lt HB1.out)).trans HB1.out); have e0 := blk_cell hk.out 0; have e1 := blk_cell hk.out 1; have e2 := blk_cell hk.out 2; have e3 := blk_cell hk.out 3; have e4 := blk_cell hk.out 4; have f1 := blk_frozen hk.out 1; have f2 := blk_frozen hk.out 2; have f3 := blk_frozen hk.out 3; have f4 := blk_frozen hk.out 4; simp only [List.getElem?_toArray, List.getElem?_cons_zero, List.getElem?_cons_succ] at e0 e1 e2 e3 e4)
                        | (go_at_call 36; have hk5 := (blk_set (blk_set hj.out 3 (.int .i64 ((p : Int) + 1 + m + X + k))) 4 (.int .i64 Y)).trans (show _ = some (Obj.cells #[.int .u64 1, .int .i64 ((p : Int) + 1 + m), .int .i64 X, .int .i64 ((p : Int) + 1 + m + X + k), .int .i64 Y] 73 (0, 0)) from rfl); (with_reducible refine (((HM3.out.below hb2).set 3 _).set 4 _ |>.put hk5 (by omega) _ (by omega) (by omega) (by omega) (by omega) (by omega)).mono ?_); rintro e w3 ⟨rfl, vi2, HM2, HX2⟩))
                      go_roundw
                      case rel => exact ⟨(rs.length : Int) + 1, z, _, vi2, _, rs ++ [(true, [], [])], rfl, rfl, by omega, by rw [List.length_append, List.length_singleton]; omega, by rw [List.length_append, List.length_singleton]; omega, Lib.hid (Or.inr ⟨hz0, hz1, rfl⟩), by rw [List.length_append, List.length_singleton]; exact HM2, HX2⟩
                      case measure => exact meas_lt (a := (p : Int)) (b := z) (by omega)
                  · have hfit2 : (p : Int) + 1 + m + X + k + Y ≤ n := by omega
                    obtain ⟨r, hr⟩ := fit_put (by rw [HN.out]; exact hp) HY.out HU.out hx0 hm1 HU2.out hy0 (by rw [HN.out]; exact hfit2) H5.out H4.out HI.out HL.out
                    have HR2 := Lib.hid hr
                    clear hr
                    go_wp2_with (first
                      | (go_at_call 40; have hk3 := (blk_set (blk_set hk.out 1 (.int .i64 ((p : Int) + 1 + m))) 2 (.int .i64 X)).trans (show _ = some (Obj.cells #[.int .u64 1, .int .i64 ((p : Int) + 1 + m), .int .i64 X, .int .i64 vp, .int .i64 vl] 73 (0, 0)) from rfl); have HM3 := Lib.hid (((HM1.out.below hb1).set 1 (.int .i64 ((p : Int) + 1 + m))).set 2 (.int .i64 X)); (with_reducible refine (hU2.out _ HM3.out.data).mono ?_); rintro e w2 ⟨rfl, hb2⟩; have hj := Lib.hid ((hb2.block w.heap.size (blk_lt hk3)).trans hk3); clear e0 e1 e2 e3 e4 f1 f2 f3 f4 hk3; have e0 := blk_cell hj.out 0; have e1 := blk_cell hj.out 1; have e2 := blk_cell hj.out 2; have e3 := blk_cell hj.out 3; have e4 := blk_cell hj.out 4; have f3 := blk_frozen hj.out 3; have f4 := blk_frozen hj.out 4; simp only [List.getElem?_toArray, List.getElem?_cons_zero, List.getElem?_cons_succ] at e0 e1 e2 e3 e4)
                      | (go_at_call 40; (with_reducible refine (hU.out _ HW1.out).mono ?_); rintro e w1 ⟨rfl, hb1⟩; have hk := Lib.hid ((hb1.block w.heap.size (blk_lt HB1.out)).trans HB1.out); have e0 := blk_cell hk.out 0; have e1 := blk_cell hk.out 1; have e2 := blk_cell hk.out 2; have e3 := blk_cell hk.out 3; have e4 := blk_cell hk.out 4; have f1 := blk_frozen hk.out 1; have f2 := blk_frozen hk.out 2; have f3 := blk_frozen hk.out 3; have f4 := blk_frozen hk.out 4; simp only [List.getElem?_toArray, List.getElem?_cons_zero, List.getElem?_cons_succ] at e0 e1 e2 e3 e4)
                      | (go_at_call 36; have hk5 := (blk_set (blk_set hj.out 3 (.int .i64 ((p : Int) + 1 + m + X + k))) 4 (.int .i64 Y)).trans (show _ = some (Obj.cells #[.int .u64 1, .int .i64 ((p : Int) + 1 + m), .int .i64 X, .int .i64 ((p : Int) + 1 + m + X + k), .int .i64 Y] 73 (0, 0)) from rfl); (with_reducible refine (((HM3.out.below hb2).set 3 _).set 4 _ |>.put hk5 (by omega) _ (by omega) (by omega) (by omega) (by omega) (by omega)).mono ?_); rintro e w3 ⟨rfl, vi2, HM2, HX2⟩))
                    go_roundw
                    case rel => exact ⟨(rs.length : Int) + 1, (p : Int) + 1 + m + X + k + Y, _, vi2, _, rs ++ [r], rfl, rfl, by omega, by rw [List.length_append, List.length_singleton]; omega, by rw [List.length_append, List.length_singleton]; omega, HR2, by rw [List.length_append, List.length_singleton]; exact HM2, HX2⟩
                    case measure => exact meas_lt (a := (p : Int)) (b := ((p : Int) + 1 + m + X + k + Y)) (by omega)

end Go.Proofs.Ytddjenmengipkaa.Bt
