/- impl.BatchLoad: a batch is loaded, and its records collected. -/
import Derived.Test.YtddjenmengipkaaBtRepl
import Derived.Defers
import Derived.Recover
namespace Go.Proofs.Ytddjenmengipkaa.Bt
open Go.RowKit Go.Sort Go.Proofs.YtddjenmengipkaaW.PrintWords Go.Proofs.YtddjenmengipkaaW.PrintMore Go.Proofs.Ytddjenmengipkaa.PFnBatchLoads Go.Proofs.Ytddjenmengipkaa.Cmp
set_option linter.unusedVariables false

theorem catch_panicking (p q r : Addr) (x y z : Value) (u : TypeId) (pv : Value) (w : World) (hp : w.cell? p = some x) (hq : w.cell? q = some y) (hr : w.cell? r = some z) (zp : w.frozen? p = false) (zq : w.frozen? q = false) (zr : w.frozen? r = false) (hpq : p ≠ q) (hpr : p ≠ r) (hqr : q ≠ r) :
    CallsD Try.prog 16 #[.pointer (some p), .pointer (some q), .pointer (some r)] (.panicking [{ v := .iface u pv, recovered := false }]) w fun e u' w' =>
      e = .returned (.tuple #[]) ∧ u' = .panicking [{ v := .iface u pv, recovered := true }] ∧ w' = ((w.setCell p (.slice none 0 0)).setCell q (.int .i64 0)).setCell r (.bool false) := by
  refine callsD_of_wpS Try.func16 rfl fun c₀ cs hu => ?_
  apply wpS_seq
  apply wpS_region
  simp [wpOpsS, go_sem, recoverD, hu, Try.ntmps16, Exit.thenS]
  refine wpS_cond (t := true) (by simp [Act.eval, Array.replicate]) ?_
  simp only [if_true]
  apply wpS_region
  simp [wpOpsS, go_sem, hp, hq, hr, zp, zq, zr, hpq, hpr, hqr, Ne.symm hpq, Ne.symm hpr, Ne.symm hqr, bodyPostS, results, Try.results16]

theorem catch_idle (p q r : Addr) (w : World) :
    CallsD Try.prog 16 #[.pointer (some p), .pointer (some q), .pointer (some r)] .returning w fun e u' w' => e = .returned (.tuple #[]) ∧ u' = .returning ∧ w' = w := by
  refine callsD_of_wpS Try.func16 rfl fun c₀ cs hu => ?_
  apply wpS_seq
  apply wpS_region
  simp [wpOpsS, go_sem, recoverD, hu, Try.ntmps16, Exit.thenS]
  refine wpS_cond (t := false) (by simp [Act.eval, Array.replicate]) ?_
  simp only [Bool.false_eq_true, if_false]
  refine wpS_of_wp (wp_skip ?_)
  cases c₀
  simp_all [bodyPostS, results, Try.results16]

theorem list_step {P : Program} {ops : Array Oper} {o : Oper} {rest : List Oper} {a : Act} {Q : Exit → Act → World → Prop} {W : World}
    (h : if Region.wanted o (yielded ops a.tmps) = true then Oper.wp P o a W (wpList P ops Q rest) Q else wpList P ops Q rest (a.put o.dst undef) W) : wpList P ops Q (o :: rest) a W := by
  unfold wpList
  split
  · rename_i hw
    rw [if_pos hw] at h
    exact Or.inl h
  · rename_i hw
    rw [if_neg hw] at h
    exact h

theorem four_new (w : World) (a b c : Value) (d : Array Value) (ta tb tc td : TypeId) : let W := (((w.alloc (.cells #[a] ta)).alloc (.cells #[b] tb)).alloc (.cells #[c] tc)).alloc (.cells d td)
    Below w.heap.size w W ∧ W.heap.size = w.heap.size + 4 ∧ W.heap[w.heap.size]? = some (.cells #[a] ta (0, 0)) ∧ W.heap[w.heap.size + 1]? = some (.cells #[b] tb (0, 0)) ∧ W.heap[w.heap.size + 1 + 1]? = some (.cells #[c] tc (0, 0)) ∧ W.heap[w.heap.size + 1 + 1 + 1]? = some (.cells d td (0, 0)) := by
  have b1 := below_alloc (Below.refl w.heap.size w) (.cells #[a] ta)
  have b2 := below_alloc (Below.refl (w.alloc (.cells #[a] ta)).heap.size (w.alloc (.cells #[a] ta))) (.cells #[b] tb)
  have b3 := below_alloc (Below.refl ((w.alloc (.cells #[a] ta)).alloc (.cells #[b] tb)).heap.size ((w.alloc (.cells #[a] ta)).alloc (.cells #[b] tb))) (.cells #[c] tc)
  have b4 := below_alloc (Below.refl (((w.alloc (.cells #[a] ta)).alloc (.cells #[b] tb)).alloc (.cells #[c] tc)).heap.size (((w.alloc (.cells #[a] ta)).alloc (.cells #[b] tb)).alloc (.cells #[c] tc))) (.cells d td)
  have n1 := blk_new w (.cells #[a] ta)
  have n2 := blk_new (w.alloc (.cells #[a] ta)) (.cells #[b] tb)
  have n3 := blk_new ((w.alloc (.cells #[a] ta)).alloc (.cells #[b] tb)) (.cells #[c] tc)
  have n4 := blk_new (((w.alloc (.cells #[a] ta)).alloc (.cells #[b] tb)).alloc (.cells #[c] tc)) (.cells d td)
  simp only [World.size_alloc] at n2 n3 n4
  refine ⟨below_then (below_then (below_then b1 b1.size b2) (Nat.le_trans b1.size b2.size) b3) (Nat.le_trans (Nat.le_trans b1.size b2.size) b3.size) b4, by simp, ?_, ?_, ?_, n4⟩
  · rw [b4.block _ (by simp; omega), b3.block _ (by simp; omega), b2.block _ (by simp)]; exact n1
  · rw [b4.block _ (by simp), b3.block _ (by simp)]; exact n2
  · rw [b4.block _ (by simp)]; exact n3

theorem rdI_len : ∀ {n : Nat} {l : List Int} {rs : List Rec}, rdI n l = some rs → rs.length ≤ n := by
  intro n
  induction n with
  | zero => intro l rs h; unfold rdI at h; injection h with h; subst h; simp
  | succ n ih =>
    intro l rs h
    cases l with
    | nil => unfold rdI at h; injection h with h; subst h; simp
    | cons b l =>
      unfold rdI at h
      cases hs : szI l with
      | none => rw [hs] at h; cases h
      | some p =>
        rw [hs] at h
        simp only at h
        by_cases h1 : 1 < b
        · rw [if_pos h1] at h; cases h
        · rw [if_neg h1] at h
          by_cases h2 : b = 1
          · rw [if_pos h2] at h
            cases hs2 : szI p.2 with
            | none => rw [hs2] at h; cases h
            | some q =>
              rw [hs2] at h
              simp only at h
              cases hr : rdI n q.2 with
              | none => rw [hr] at h; cases h
              | some x => rw [hr] at h; injection h with h; subst h; have := ih hr; simp; omega
          · rw [if_neg h2] at h
            cases hr : rdI n p.2 with
            | none => rw [hr] at h; cases h
            | some x => rw [hr] at h; injection h with h; subst h; have := ih hr; simp; omega

def BlTold (w : World) (R : Option (List Rec)) (e : Ending) (w' : World) : Prop := Below w.heap.size w w' ∧ match R with
  | none => e = .returned (.tuple #[.slice none 0 0, .int .i64 0, .bool false])
  | some rs => ∃ vl cs, e = .returned (.tuple #[vl, .int .i64 rs.length, .bool true]) ∧ w'.ownsRow w.heap.size 38 3 vl rs.length cs ∧ RecB w' (fun _ => True) cs rs

set_option maxHeartbeats 1600000 in
set_option maxRecDepth 100000 in
theorem BatchLoad_calls {w : World} {A : Option Addr} {c : Nat} {l : List Int} (h : Kd.C (Kd.int .u8) w A l.length l) (hb : Byt l) (hl : l.length ≤ 4194304) (hf : farI 0 l = false) :
    Calls Try.prog 7 #[.slice A l.length c] w (BlTold w (rdI l.length l)) := by
  have HC := Lib.hid h
  have HBY := Lib.hid (show Byt l ∧ farI 0 l = false from ⟨hb, hf⟩)
  have hmf : ∀ (fn : Fn) (first cap : Array Value) (w : World), (Instr.makeFunc fn first cap).run Try.prog w = .ok (.func fn first cap) w := fun _ _ _ _ => rfl
  clear h hb hf
  generalize hn : l.length = n at *
  have HN := Lib.hid hn
  clear hn
  have hW0 := four_new w (.slice none 0 0) (.int .i64 0) (.bool false) #[.slice none 0 0, .slice none 0 0, .int .i64 0] 27 3 4 45
  have H0 := Lib.hid hW0
  clear hW0
  go_enter_defers Try.func7, Try.ntmps7
  go_wp2_with fail
  generalize (((w.alloc (.cells #[.slice none 0 0] 27)).alloc (.cells #[.int .i64 0] 3)).alloc (.cells #[.bool false] 4)).alloc (.cells #[.slice none 0 0, .slice none 0 0, .int .i64 0] 45) = W0 at *
  obtain ⟨hb0, hz0, x0, x1, x2, x3⟩ := H0.out
  have hCW0 := Lib.hid (far_calls (c := c) (show Kd.C (Kd.int .u8) W0 A l.length l by rw [HN.out]; exact Kd.C_below HC.out hb0))
  have X0 := Lib.hid x0
  have X1 := Lib.hid x1
  have X2 := Lib.hid x2
  have X3 := Lib.hid x3
  have Z0 := Lib.hid hz0
  have B0 := Lib.hid hb0
  rw [HN.out, HBY.out.2] at hCW0
  clear x0 x1 x2 x3 hz0 hb0 H0
  refine (hCW0.out).mono ?_
  rintro e w1 ⟨rfl, hb1⟩
  have B1 := Lib.hid hb1
  have hE : Hid ((w1.alloc (.cells #[] 5)).ownsRow w1.heap.size 5 1 (.slice (some ⟨w1.heap.size, 0, none⟩) 0 0) ([] : List Int).length (nums .u8 [])) := own_lit w1 w1.heap.size 5 .u8 [] (Nat.le_refl _) (by decide)
  have hC1 := Lib.hid (Kd.C_alloc (Kd.C_below (Kd.C_below HC.out B0.out) hb1) (.cells #[] 5))
  clear hb1
  go_wp2_with (at_builtin; go_loud (refine list_step (append_row_step w1.heap.size rfl (.tmp 14) (.tmp 15) 22 5 rfl Try.underlying22 info_u8 _ [] l _ _ _ rfl rfl hE.out hC1.out (below_alloc (Below.refl _ _) _) (by simp) (by simp; omega) ?_)); intro v2 w2 ho2 hb2 hx1 hx2; clear hx1 hx2)
  obtain ⟨A2, c2, hv2, hC2, hc2, hok2⟩ : CutB w2 (fun b => w1.heap.size ≤ b ∧ b < w2.heap.size) v2 l := own_CB ho2
  rw [HN.out] at hv2
  subst hv2
  have hz1 := B1.out.size
  have hz2 := hb2.size
  have hz0 := Z0.out
  have y0 := (hb2.block w.heap.size (by omega)).trans ((B1.out.block w.heap.size (by omega)).trans X0.out)
  have y1 := (hb2.block (w.heap.size + 1) (by omega)).trans ((B1.out.block (w.heap.size + 1) (by omega)).trans X1.out)
  have y2 := (hb2.block (w.heap.size + 1 + 1) (by omega)).trans ((B1.out.block (w.heap.size + 1 + 1) (by omega)).trans X2.out)
  have y3 := (hb2.block (w.heap.size + 1 + 1 + 1) (by omega)).trans ((B1.out.block (w.heap.size + 1 + 1 + 1) (by omega)).trans X3.out)
  have hL := Load_calls (base := w.heap.size + 1 + 1 + 1) (c := c2) y3 (Nat.le_refl _) hC2 (fun a ha => ⟨(hok2 a ha).2, by have := (hok2 a ha).1; omega⟩) hc2 HBY.out.1 (by rw [HN.out]; omega) HBY.out.2
  rw [HN.out] at hL
  have HL := Lib.hid hL
  have Y0 := Lib.hid y0
  have Y1 := Lib.hid y1
  have Y2 := Lib.hid y2
  have B2 := Lib.hid (below_then (below_then B0.out B0.out.size B1.out) (Nat.le_trans B0.out.size hz1) hb2)
  have OK2 := Lib.hid (And.intro hc2 hok2)
  have ZZ := Lib.hid (show w.heap.size + 4 ≤ w1.heap.size ∧ w1.heap.size ≤ w2.heap.size from ⟨by omega, hz2⟩)
  clear hL y0 y1 y2 y3 hz0 hz1 hz2 hb2 ho2 hC2 hok2 hc2 X0 X1 X2 X3 hE hC1 hCW0 B0 B1 Z0
  generalize hR : rdI n l = R at *
  have HRR := Lib.hid hR
  clear hR
  cases R with
  | none =>
    (with_reducible refine HL.out.mono ?_)
    rintro e w3 ⟨hb3, hr⟩
    have b0 := (hb3.block w.heap.size (by omega)).trans Y0.out
    have b1 := (hb3.block (w.heap.size + 1) (by omega)).trans Y1.out
    have b2 := (hb3.block (w.heap.size + 1 + 1) (by omega)).trans Y2.out
    have d0 := blk_cell b0 0
    have d1 := blk_cell b1 0
    have d2 := blk_cell b2 0
    have g0 := blk_frozen b0 0
    have g1 := blk_frozen b1 0
    have g2 := blk_frozen b2 0
    simp only [List.getElem?_toArray, List.getElem?_cons_zero] at d0 d1 d2
    have HB3 := Lib.hid (B2.out.trans (hb3.mono (by omega)))
    rcases hr with ⟨t3, v3, rfl⟩ | ⟨t3, v3, rfl⟩
    · clear b0 b1 b2 hb3
      go_wp2
      refine leaves_cons (f := 16) (args := #[.pointer (some ⟨w.heap.size, 0, none⟩), .pointer (some ⟨w.heap.size + 1, 0, none⟩), .pointer (some ⟨w.heap.size + 1 + 1, 0, none⟩)]) (by simp) (by simp [go_sem]) ?_
      refine (catch_idle _ _ _ _).mono ?_
      rintro e u' w'' ⟨rfl, rfl, rfl⟩
      simp [Leaves, settle, results, Try.results7, go_sem, d0, d1, d2]
      exact ⟨((HB3.out.setCell (p := ⟨w.heap.size, 0, none⟩) (Nat.le_refl _) _).setCell (p := ⟨w.heap.size + 1, 0, none⟩) (Nat.le_succ _) _).setCell (p := ⟨w.heap.size + 1 + 1, 0, none⟩) (by show _ ≤ w.heap.size + 1 + 1; omega) _, rfl⟩
    · refine leaves_cons (f := 16) (args := #[.pointer (some ⟨w.heap.size, 0, none⟩), .pointer (some ⟨w.heap.size + 1, 0, none⟩), .pointer (some ⟨w.heap.size + 1 + 1, 0, none⟩)]) (by simp) (by simp [go_sem]) ?_
      refine (catch_panicking _ _ _ _ _ _ _ _ _ d0 d1 d2 g0 g1 g2 (by simp) (by simp) (by simp)).mono ?_
      rintro e u' w'' ⟨rfl, rfl, rfl⟩
      simp [Leaves, settle, results, Try.results7, go_sem, d0, d1, d2]
      exact ⟨((HB3.out.setCell (p := ⟨w.heap.size, 0, none⟩) (Nat.le_refl _) _).setCell (p := ⟨w.heap.size + 1, 0, none⟩) (Nat.le_succ _) _).setCell (p := ⟨w.heap.size + 1 + 1, 0, none⟩) (by show _ ≤ w.heap.size + 1 + 1; omega) _, rfl⟩
  | some rs =>
    have hrn := rdI_len HRR.out
    (with_reducible refine HL.out.mono ?_)
    rintro e w3 ⟨hb3, rfl, ⟨vi, cs, hbat, hix⟩, hdat⟩
    have hz3 := hb3.size
    have HB3 := Lib.hid (B2.out.trans (hb3.mono (by omega)))
    have b0 := (hb3.block w.heap.size (by omega)).trans Y0.out
    have b1 := (hb3.block (w.heap.size + 1) (by omega)).trans Y1.out
    have b2 := (hb3.block (w.heap.size + 1 + 1) (by omega)).trans Y2.out
    have hr0 := blk_new w3 (.cells #[.slice none 0 0] 51)
    have hrb := below_alloc (Below.refl w3.heap.size w3) (.cells #[.slice none 0 0] 51)
    have hrz := hrb.size
    have hvi : ∀ b, vi.ownBlock = some b → b < w3.heap.size := fun b hb => by
      rcases hbat.row.2 with ⟨q, _⟩ | ⟨q1, q2, q3, q4, q5, q6, _⟩
      · rw [q] at hb; cases hb
      · rw [q4] at hb; injection hb with hb; rw [← hb]; exact blk_lt q6
    have hgl : w.heap.size + 1 + 1 + 1 < w3.heap.size := by obtain ⟨il, q⟩ := hbat.cells; exact blk_lt q
    have hP := Replay_calls (base := w3.heap.size) (r := w3.heap.size) (vl := .slice none 0 0) (A := A2) (c := c2) (l := l) (vi := vi) (by rw [HN.out]; exact hbat.below hrb) hix (Kd.C_below hdat hrb) (fun a ha => Nat.lt_of_lt_of_le (OK2.out.2 a ha).2 hz3) hgl hvi ⟨hr0, ⟨[], own_nil _ _ _ _, .nil⟩, Nat.le_refl _⟩ hrb.size (by rw [HN.out]; have := OK2.out.1; rw [HN.out] at this; exact this) (by rw [HN.out]; omega) (by omega)
    have HP := Lib.hid hP
    obtain ⟨il, hcb⟩ := hbat.cells
    obtain ⟨Ai, ci, rfl⟩ := own_slice hbat.row
    have HCB := Lib.hid hcb
    have E0 := Lib.hid b0
    have E1 := Lib.hid b1
    have E2 := Lib.hid b2
    have HRB := Lib.hid hrb
    clear hP hcb b0 b1 b2 hbat hix hdat hb3 hr0 hrb hrz hvi
    go_wp2_with (go_at_call 19; (with_reducible refine HP.out.mono ?_); rintro e w4 ⟨rfl, hb4, vl4, hR4⟩)
    have hB34 := HRB.out.trans hb4
    have hcb := (hB34.block (w.heap.size + 1 + 1 + 1) hgl).trans HCB.out
    have HCB4 := Lib.hid hcb
    have er : w4.cell? ⟨w3.heap.size, 0, none⟩ = some vl4 := (blk_cell hR4.cell 0).trans rfl
    have HR4 := Lib.hid hR4
    have HB34 := Lib.hid hB34
    have KR := cell_regrown er
    clear hb4 hR4 hB34 hcb er
    refine Qt.below_tail 6 (by kernel_rfl) (by kernel_rfl) ?_
    simp only [List.take_succ_cons, List.take_zero, List.drop_succ_cons, List.drop_zero]
    repeat (go_big_quiet_step (first
      | (go_at_call 20; with_reducible exact Calls.regrown_of ((Len_calls (((below_regrown w4 _ _).block _ (blk_lt HCB4.out)).trans HCB4.out)).mono (by rintro e w' ⟨rfl, rfl⟩; exact ⟨rfl, Below.refl _ _⟩)))))
    refine wpQuiet_nil ?_
    intro w5 hb5
    have b0 := (hb5.block w.heap.size (by have := HB34.out.size; omega)).trans ((HB34.out.block w.heap.size (by omega)).trans E0.out)
    have b1 := (hb5.block (w.heap.size + 1) (by have := HB34.out.size; omega)).trans ((HB34.out.block (w.heap.size + 1) (by omega)).trans E1.out)
    have b2 := (hb5.block (w.heap.size + 1 + 1) (by have := HB34.out.size; omega)).trans ((HB34.out.block (w.heap.size + 1 + 1) (by omega)).trans E2.out)
    have d0 := blk_cell b0 0
    have d1 := blk_cell b1 0
    have d2 := blk_cell b2 0
    have g0 := blk_frozen b0 0
    have g1 := blk_frozen b1 0
    have g2 := blk_frozen b2 0
    simp only [List.getElem?_toArray, List.getElem?_cons_zero] at d0 d1 d2
    obtain ⟨cs4, hrow, hrec⟩ := HR4.out.recs
    obtain ⟨A4, c4, rfl⟩ := own_slice hrow
    have HR5 := Lib.hid (HR4.out.below hb5)
    have HB5 := Lib.hid (below_then (below_then HB3.out HB3.out.size HB34.out) (Nat.le_trans HB3.out.size HB34.out.size) hb5)
    clear b0 b1 b2 hb5 hrow hrec
    go_wp2
    refine leaves_cons (f := 16) (args := #[.pointer (some ⟨w.heap.size, 0, none⟩), .pointer (some ⟨w.heap.size + 1, 0, none⟩), .pointer (some ⟨w.heap.size + 1 + 1, 0, none⟩)]) (by simp) (by simp [go_sem]) ?_
    refine (catch_idle _ _ _ _).mono ?_
    rintro e u' w'' ⟨rfl, rfl, rfl⟩
    simp [Leaves, settle, results, Try.results7, go_sem, d0, d1, d2]
    obtain ⟨cs4, hrow, hrec⟩ := HR5.out.recs
    have hz3' := HB3.out.size
    refine ⟨((HB5.out.setCell (p := ⟨w.heap.size, 0, none⟩) (Nat.le_refl _) _).setCell (p := ⟨w.heap.size + 1, 0, none⟩) (Nat.le_succ _) _).setCell (p := ⟨w.heap.size + 1 + 1, 0, none⟩) (by show _ ≤ w.heap.size + 1 + 1; omega) _, _, cs4, rfl, ?_, ?_⟩
    · have hX : ∀ X, X < w3.heap.size → some X ≠ (Value.slice A4 rs.length c4).ownBlock := by
        intro X hX
        rcases hrow.2 with ⟨q, _⟩ | ⟨q1, q2, q3, q4, q5, q6, _⟩
        · rw [q]; simp [Value.ownBlock]
        · rw [q4]; intro e; injection e with e; simp only at e; omega
      exact own_weaken (own_setCell (p := ⟨w.heap.size + 1 + 1, 0, none⟩) (own_setCell (p := ⟨w.heap.size + 1, 0, none⟩) (own_setCell (p := ⟨w.heap.size, 0, none⟩) hrow (hX w.heap.size (by omega)) _) (hX (w.heap.size + 1) (by omega)) _) (hX (w.heap.size + 1 + 1) (by omega)) _) (by omega)
    · refine hrec.imp (fun b q => ⟨?_, trivial⟩)
      have hq := q.2.2.2
      rw [Below.heap_setCell _ _ _ b (show b ≠ w.heap.size + 1 + 1 by omega), Below.heap_setCell _ _ _ b (show b ≠ w.heap.size + 1 by omega), Below.heap_setCell _ _ _ b (show b ≠ w.heap.size by omega)]

end Go.Proofs.Ytddjenmengipkaa.Bt
