/- Batches: goleveldb's Batch.Replay into impl's collector. -/
import Derived.Test.YtddjenmengipkaaBtPut
import Derived.Test.YtddjenmengipkaaQt
namespace Go.Proofs.Ytddjenmengipkaa.Bt
open Go.RowKit Go.Sort Go.Proofs.YtddjenmengipkaaW.PrintWords Go.Proofs.YtddjenmengipkaaW.PrintMore Go.Proofs.Ytddjenmengipkaa.PFnBatchLoads Go.Proofs.Ytddjenmengipkaa.Cmp
set_option linter.unusedVariables false

set_option maxHeartbeats 400000 in
set_option maxRecDepth 100000 in
theorem k_any (A : Option Addr) (c : Nat) (l : List Int) (x : Ix) (hc : l.length ≤ c) (hl : l.length ≤ 4294967296) (hk : x.kp + x.kl ≤ l.length) :
    ∃ v, (∀ w, Calls Try.prog 31 #[.agg #[.int .u64 x.kt, .int .i64 x.kp, .int .i64 x.kl, .int .i64 x.vp, .int .i64 x.vl], .slice A l.length c] w fun e w' => e = .returned v ∧ Below w.heap.size w w') ∧ ∀ w, Kd.C (Kd.int .u8) w A l.length l → Cut w v ((l.drop x.kp).take x.kl) := by
  obtain ⟨kt, kp, kl, vp, vl⟩ := x
  obtain ⟨v, s1, s2⟩ := mid_of A c l kp (kp + kl) (by omega) hk hc
  refine ⟨v, fun w => ?_, fun w h => by rw [← take_drop]; exact s2 w h⟩
  clear s2
  simp only [Int.natCast_add] at s1 hk
  generalize l.length = n at *
  have hb2 : kp + kl ≤ 4294967296 := by omega
  have HC := Lib.hid hc
  clear hc
  go_enter Try.func31, Try.ntmps31
  go_wp2
  go_ret
  exact ⟨rfl, by repeat (first | exact Below.refl _ _ | apply below_alloc)⟩

set_option maxHeartbeats 400000 in
set_option maxRecDepth 100000 in
theorem v_any (A : Option Addr) (c : Nat) (l : List Int) (x : Ix) (hc : l.length ≤ c) (hl : l.length ≤ 4294967296) (hk : x.vp + x.vl ≤ l.length) :
    ∃ v, (∀ w, Calls Try.prog 32 #[.agg #[.int .u64 x.kt, .int .i64 x.kp, .int .i64 x.kl, .int .i64 x.vp, .int .i64 x.vl], .slice A l.length c] w fun e w' => e = .returned v ∧ Below w.heap.size w w') ∧ ∀ w, Kd.C (Kd.int .u8) w A l.length l → Cut w v ((l.drop x.vp).take x.vl) := by
  obtain ⟨kt, kp, kl, vp, vl⟩ := x
  by_cases h0 : vl = 0
  · subst h0
    refine ⟨.slice none 0 0, fun w => ?_, fun w h => by rw [List.take_zero]; exact Cut.nil w⟩
    clear hc
    go_enter Try.func32, Try.ntmps32
    go_wp2
    go_ret
    exact ⟨rfl, by repeat (first | exact Below.refl _ _ | apply below_alloc)⟩
  · obtain ⟨v, s1, s2⟩ := mid_of A c l vp (vp + vl) (by omega) hk hc
    refine ⟨v, fun w => ?_, fun w h => by rw [← take_drop]; exact s2 w h⟩
    clear s2
    simp only [Int.natCast_add] at s1 hk
    generalize l.length = n at *
    have hb2 : vp + vl ≤ 4294967296 := by omega
    have HC := Lib.hid hc
    clear hc
    have h0 : ¬ (vl : Int) = 0 := by omega
    go_enter Try.func32, Try.ntmps32
    go_wp2
    go_ret
    exact ⟨rfl, by repeat (first | exact Below.refl _ _ | apply below_alloc)⟩

theorem IxW.len {l : List Int} {cs : List Value} {rs : List Rec} (h : IxW l cs rs) : cs.length = rs.length * 5 := by
  induction h with
  | nil => rfl
  | step _ _ ih => simp [ih, Ix.cells]; omega

theorem IxW.at_ {l : List Int} {cs : List Value} {rs : List Rec} (h : IxW l cs rs) : ∀ i, i < rs.length → ∃ x r, rs[i]? = some r ∧ Ix.Is l x r ∧ ∀ j, j < 5 → cs[i * 5 + j]? = x.cells[j]? := by
  induction h with
  | nil => intro i hi; cases hi
  | @step cs rs x r h hx ih =>
    intro i hi
    have hl := h.len
    rcases Nat.lt_or_ge i rs.length with q | q
    · obtain ⟨x', r', h1, h2, h3⟩ := ih i q
      refine ⟨x', r', by rw [List.getElem?_append_left q]; exact h1, h2, fun j hj => ?_⟩
      rw [List.getElem?_append_left (by omega)]
      exact h3 j hj
    · have e : i = rs.length := by simp at hi; omega
      subst e
      refine ⟨x, r, by simp, hx, fun j hj => ?_⟩
      rw [List.getElem?_append_right (by omega), hl]
      congr 1
      omega

theorem own_cell {w : World} {base n size : Nat} {e : TypeId} {v : Value} {xs : List Value} (h : w.ownsRow base e size v n xs) (hn : 0 < n) : ∃ g c, v = .slice (some ⟨g, 0, none⟩) n c ∧ base ≤ g ∧ ∀ i u, xs[i]? = some u → w.cell? ⟨g, i, none⟩ = some u := by
  rcases h.2 with ⟨rfl, h2⟩ | ⟨g, cap, cur, rfl, hb, hh, _, _, _, h3⟩
  · omega
  · refine ⟨g, cap, rfl, hb, fun i u hi => ?_⟩
    rw [blk_cell hh i]
    rw [← h3] at hi
    rcases Nat.lt_or_ge i (n * size) with q | q
    · rw [List.getElem?_take_of_lt q] at hi
      simpa using hi
    · rw [List.getElem?_eq_none (by simp; omega)] at hi
      cases hi

theorem Rep.below {w w1 : World} {base r : Nat} {vl : Value} {rs : List Rec} (h : Rep w base r vl rs) (hb : Below w.heap.size w w1) : Rep w1 base r vl rs := by
  obtain ⟨cs, h1, h2⟩ := h.recs
  exact ⟨(hb.block r (blk_lt h.cell)).trans h.cell, ⟨cs, pw_own_below h1 hb, h2.imp (fun b q => ⟨hb.block b q.1, Nat.lt_of_lt_of_le q.1 hb.size, q.2⟩)⟩, h.at_⟩

theorem take_next {rs : List Rec} {i : Nat} {x : Rec} (h : rs[i]? = some x) : rs.take i ++ [x] = rs.take (i + 1) := by
  rw [List.take_add_one, h]
  rfl

theorem nil_put (a : Addr) (w : World) : (nilAhead 211 49 (.pointer (some a)) "Put").run Try.prog w = .ok (some false) w := by kernel_rfl
theorem nil_del (a : Addr) (w : World) : (nilAhead 211 49 (.pointer (some a)) "Delete").run Try.prog w = .ok (some false) w := by kernel_rfl
theorem meth_put (a : Addr) (w : World) : (method 211 49 (.pointer (some a)) "Put").run Try.prog w = .ok (59, .pointer (some a)) w := by kernel_rfl
theorem meth_del (a : Addr) (w : World) : (method 211 49 (.pointer (some a)) "Delete").run Try.prog w = .ok (58, .pointer (some a)) w := by kernel_rfl

set_option maxHeartbeats 1600000 in
set_option maxRecDepth 100000 in
theorem Replay_calls {w : World} {b0 base g r : Nat} {vi vl : Value} {A : Option Addr} {c : Nat} {l : List Int} {cs : List Value} {rs : List Rec} (hB : BatS w b0 g (.slice A l.length c) vi rs.length cs) (hI : IxW l cs rs) (hC : Kd.C (Kd.int .u8) w A l.length l) (hbl : ∀ a, A = some a → a.block < base) (hg : g < base) (hvi : ∀ b, vi.ownBlock = some b → b < base) (hR : Rep w base r vl []) (hbase : base ≤ w.heap.size) (hc : l.length ≤ c) (hl : l.length ≤ 4294967296) (hrl : rs.length ≤ 4294967296) :
    Calls Try.prog 19 #[.pointer (some ⟨g, 0, none⟩), .iface 49 (.pointer (some ⟨r, 0, none⟩))] w fun e w' => e = .returned .nilIface ∧ Below base w w' ∧ ∃ vl', Rep w' base r vl' rs := by
  obtain ⟨il, hcell⟩ := hB.cells
  have HCE := Lib.hid hcell
  have HROW := Lib.hid hB.row
  have HI := Lib.hid hI
  have HC := Lib.hid hC
  have HBL := Lib.hid hbl
  have HVI := Lib.hid hvi
  have HR := Lib.hid hR
  have e1 : w.cell? ⟨g, 1, none⟩ = some vi := (blk_cell hcell 1).trans rfl
  obtain ⟨Ai, ci, hvi2⟩ := own_slice hB.row
  clear hB hI hC hbl hvi hR hcell
  subst hvi2
  generalize hn : rs.length = n at *
  have HN := Lib.hid hn
  clear hn
  have HL := Lib.hid (show l.length ≤ c ∧ l.length ≤ 4294967296 from ⟨hc, hl⟩)
  clear hc hl
  go_enter Try.func19, Try.ntmps19
  go_wp2
  go_loopw [12] (fun v12 wr => ∃ (i : Nat) (vl : Value), v12 = .int .i64 (i : Int) ∧ i ≤ n ∧ Hid (Rep wr base r vl (rs.take i)) ∧ Hid (Below base w wr)) (fun v12 _ => n - (intOf v12).toNat)
  case atStart => exact ⟨0, vl, rfl, Nat.zero_le _, HR, Below.refl _ _⟩
  case round =>
    obtain ⟨i, vl, rfl, hi, HR2, HB2⟩ := hrel
    clear HR
    by_cases hlt : i < n
    · have hw := HB2.out
      have hcell := (hw.block g hg).trans HCE.out
      obtain ⟨x, rc, hx1, hx2, hx3⟩ := HI.out.at_ i (by rw [HN.out]; exact hlt)
      obtain ⟨gi, ci', hvi, hgb, hcs⟩ := own_cell HROW.out (by omega)
      injection hvi with hvi _ hci
      subst hvi hci
      have hgi : gi < base := HVI.out gi rfl
      have hcw : ∀ j u, x.cells[j]? = some u → j < 5 → wr.cell? ⟨gi, i * 5 + j, none⟩ = some u := by
        intro j u hu hj
        rw [← hx3 j hj] at hu
        exact (hw.cell (p := ⟨gi, i * 5 + j, none⟩) hgi).trans (hcs _ u hu)
      have c0 : wr.cell? ⟨gi, i * 5, none⟩ = _ := hcw 0 _ rfl (by decide)
      have c1 := hcw 1 _ rfl (by decide)
      have c2 := hcw 2 _ rfl (by decide)
      have c3 := hcw 3 _ rfl (by decide)
      have c4 := hcw 4 _ rfl (by decide)
      have d0 : wr.cell? ⟨g, 0, none⟩ = some (.slice A l.length c) := (blk_cell hcell 0).trans rfl
      obtain ⟨kt, kp, kl, vp, vln⟩ := x
      obtain ⟨rd, rk, rv⟩ := rc
      obtain ⟨x1, x2, x3, x4, x5⟩ := hx2
      simp only at x1 x2 x3 x4 x5
      obtain ⟨vk, ck, dk⟩ := k_any A c l ⟨kt, kp, kl, vp, vln⟩ HL.out.1 HL.out.2 x1
      obtain ⟨vv, cv, dv⟩ := v_any A c l ⟨kt, kp, kl, vp, vln⟩ HL.out.1 HL.out.2 x2
      have HCK := Lib.hid ck
      have HCV := Lib.hid cv
      have hCr : Kd.C (Kd.int .u8) wr A l.length l := C_same HC.out (fun a ha => hw.block a.block (HBL.out a ha))
      have dk : ∀ w, Kd.C (Kd.int .u8) w A l.length l → Cut w vk rk := by rw [x3]; exact dk
      have dv : ∀ w, Kd.C (Kd.int .u8) w A l.length l → Cut w vv rv := by rw [x4]; exact dv
      have hrk : rk.length ≤ 4294967296 := by have := HL.out.2; rw [x3, List.length_take, List.length_drop]; omega
      have hrv : rv.length ≤ 4294967296 := by have := HL.out.2; rw [x4, List.length_take, List.length_drop]; omega
      obtain ⟨Ak, ak, rfl, _, _⟩ := dk wr hCr
      obtain ⟨Av, av, rfl, _, _⟩ := dv wr hCr
      have HDK : Hid (∀ W, Kd.C (Kd.int .u8) W A l.length l → Kd.C (Kd.int .u8) W Ak rk.length rk) := Lib.hid (fun W hW => by
        obtain ⟨A', c', e, h1, _⟩ := dk W hW
        injection e with e1 _ _
        rw [e1]; exact h1)
      have HDV : Hid (∀ W, Kd.C (Kd.int .u8) W A l.length l → Kd.C (Kd.int .u8) W Av rv.length rv) := Lib.hid (fun W hW => by
        obtain ⟨A', c', e, h1, _⟩ := dv W hW
        injection e with e1 _ _
        rw [e1]; exact h1)
      have HX1 := Lib.hid hx1
      have HX := Lib.hid (And.intro x3 x4)
      have hxl := And.intro x1 x2
      have HXL := Lib.hid hxl
      clear hcw hcs hx3 hx1 hcell ck cv dk dv x1 x2 x3 x4 hxl
      have n1 := nil_put ⟨r, 0, none⟩
      have n2 := nil_del ⟨r, 0, none⟩
      have m1 := meth_put ⟨r, 0, none⟩
      have m2 := meth_del ⟨r, 0, none⟩
      rcases x5 with ⟨hkt, hd⟩ | ⟨hkt, hd, hvz⟩
      · subst hkt hd
        simp only [Int.natCast_one] at c0 HCK HCV
        go_wp2
        have hx0 := blk_new wr (.cells #[.int .u64 1, .int .i64 kp, .int .i64 kl, .int .i64 vp, .int .i64 vln] 73)
        have hb0 := below_alloc (Below.refl wr.heap.size wr) (.cells #[.int .u64 1, .int .i64 kp, .int .i64 kl, .int .i64 vp, .int .i64 vln] 73)
        have hz0 := hb0.size
        generalize hW : wr.alloc (.cells #[.int .u64 1, .int .i64 kp, .int .i64 kl, .int .i64 vp, .int .i64 vln] 73) = W at *
        clear hW
        have q0 := blk_cell hx0 0
        have q1 := blk_cell hx0 1
        have q2 := blk_cell hx0 2
        have q3 := blk_cell hx0 3
        have q4 := blk_cell hx0 4
        simp only [List.getElem?_toArray, List.getElem?_cons_zero, List.getElem?_cons_succ] at q0 q1 q2 q3 q4
        have qd : W.cell? ⟨g, 0, none⟩ = some (.slice A l.length c) := (hb0.cell (p := ⟨g, 0, none⟩) (by have := hw.size; show g < wr.heap.size; omega)).trans d0
        have KQ0 := cell_regrown q0
        have KQ1 := cell_regrown q1
        have KQ2 := cell_regrown q2
        have KQ3 := cell_regrown q3
        have KQ4 := cell_regrown q4
        have KQD := cell_regrown qd
        refine Qt.below_tail 16 (by kernel_rfl) (by kernel_rfl) ?_
        simp only [List.take_succ_cons, List.take_zero, List.drop_succ_cons, List.drop_zero]
        repeat (go_big_quiet_step (first
          | (go_at_call 31; with_reducible exact Calls.regrown_of (HCK.out _))
          | (go_at_call 32; with_reducible exact Calls.regrown_of (HCV.out _))))
        refine wpQuiet_nil ?_
        intro W2 hB3
        have hsz := Nat.le_trans hbase HB2.out.size
        have hBW := below_then (below_then HB2.out hsz hb0) (Nat.le_trans hsz hb0.size) hB3
        have hCW : Kd.C (Kd.int .u8) W2 A l.length l := C_same HC.out (fun a ha => hBW.block a.block (HBL.out a ha))
        have hP := Lib.hid (Put_calls (c := ak) (d := av) ((HR2.out.below hb0).below hB3) (Nat.le_trans hbase hBW.size) (HDK.out W2 hCW) (HDV.out W2 hCW) hrk hrv (by rw [List.length_take]; omega))
        have HBW := Lib.hid hBW
        clear hBW hCW
        go_wp2_with (go_at_call 59; (with_reducible refine hP.out.mono ?_); rintro e w4 ⟨rfl, hb4, vl4, hR4⟩)
        go_roundw
        case rel => exact ⟨i + 1, vl4, by go_num, by omega, Lib.hid (by have := take_next HX1.out; rw [← this]; exact hR4), Lib.hid (HBW.out.trans hb4)⟩
        case measure => simp [intOf]; omega
      · subst hkt hd
        have hrv0 : rv = [] := by have := HX.out.2; rw [hvz, List.take_zero] at this; exact this
        subst hvz
        simp only [Int.natCast_zero] at c0 c4 HCK HCV
        go_wp2
        have hx0 := blk_new wr (.cells #[.int .u64 0, .int .i64 kp, .int .i64 kl, .int .i64 vp, .int .i64 0] 73)
        have hb0 := below_alloc (Below.refl wr.heap.size wr) (.cells #[.int .u64 0, .int .i64 kp, .int .i64 kl, .int .i64 vp, .int .i64 0] 73)
        have hz0 := hb0.size
        generalize hW : wr.alloc (.cells #[.int .u64 0, .int .i64 kp, .int .i64 kl, .int .i64 vp, .int .i64 0] 73) = W at *
        clear hW
        have q0 := blk_cell hx0 0
        have q1 := blk_cell hx0 1
        have q2 := blk_cell hx0 2
        have q3 := blk_cell hx0 3
        have q4 := blk_cell hx0 4
        simp only [List.getElem?_toArray, List.getElem?_cons_zero, List.getElem?_cons_succ] at q0 q1 q2 q3 q4
        have qd : W.cell? ⟨g, 0, none⟩ = some (.slice A l.length c) := (hb0.cell (p := ⟨g, 0, none⟩) (by have := hw.size; show g < wr.heap.size; omega)).trans d0
        have KQ0 := cell_regrown q0
        have KQ1 := cell_regrown q1
        have KQ2 := cell_regrown q2
        have KQ3 := cell_regrown q3
        have KQ4 := cell_regrown q4
        have KQD := cell_regrown qd
        refine Qt.below_tail 10 (by kernel_rfl) (by kernel_rfl) ?_
        simp only [List.take_succ_cons, List.take_zero, List.drop_succ_cons, List.drop_zero]
        repeat (go_big_quiet_step (first
          | (go_at_call 31; with_reducible exact Calls.regrown_of (HCK.out _))
          | (go_at_call 32; with_reducible exact Calls.regrown_of (HCV.out _))))
        refine wpQuiet_nil ?_
        intro W2 hB3
        have hsz := Nat.le_trans hbase HB2.out.size
        have hBW := below_then (below_then HB2.out hsz hb0) (Nat.le_trans hsz hb0.size) hB3
        have hCW : Kd.C (Kd.int .u8) W2 A l.length l := C_same HC.out (fun a ha => hBW.block a.block (HBL.out a ha))
        have hP := Lib.hid (Delete_calls (c := ak) ((HR2.out.below hb0).below hB3) (Nat.le_trans hbase hBW.size) (HDK.out W2 hCW) hrk (by rw [List.length_take]; omega))
        have HBW := Lib.hid hBW
        clear hBW hCW
        go_wp2_with (go_at_call 58; (with_reducible refine hP.out.mono ?_); rintro e w4 ⟨rfl, hb4, vl4, hR4⟩)
        go_roundw
        case rel => exact ⟨i + 1, vl4, by go_num, by omega, Lib.hid (by have := take_next HX1.out; rw [← this, hrv0]; exact hR4), Lib.hid (HBW.out.trans hb4)⟩
        case measure => simp [intOf]; omega
    · have : i = n := by omega
      subst this
      go_wp2
      go_ret
      refine ⟨rfl, HB2.out, vl, ?_⟩
      have := HR2.out
      rw [← HN.out, List.take_length] at this
      exact this

end Go.Proofs.Ytddjenmengipkaa.Bt
