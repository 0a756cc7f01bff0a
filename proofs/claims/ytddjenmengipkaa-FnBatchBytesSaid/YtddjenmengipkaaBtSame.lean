/- The reference's comparing of bytes; records compared. -/
import Derived.Test.YtddjenmengipkaaBtLd
import Derived.Test.YtddjenmengipkaaPFnBatchLoadsx2
namespace Go.Proofs.Ytddjenmengipkaa.Bt
open Go.RowKit Go.Sort Go.Proofs.YtddjenmengipkaaW.PrintWords Go.Proofs.YtddjenmengipkaaW.PrintMore Go.Proofs.Ytddjenmengipkaa.PFnBatchLoads Go.Proofs.Ytddjenmengipkaa.Cmp
set_option linter.unusedVariables false

theorem wrap_up (i : Nat) (n : Nat) (h : i < n) (hn : n ≤ 9223372036854775807) : wrap64 ((i : Int) + 1) = ((i + 1 : Nat) : Int) := by
  unfold wrap64; omega

theorem cmpI_cons (x y : Int) (l m : List Int) : cmpI (x :: l) (y :: m) = if x < y then -1 else if y < x then 1 else cmpI l m := rfl

theorem cmp_l0 (l m : List Int) (hl : l.length ≤ 9223372036854775807) (d : Nat) : ∀ i : Nat, l.length - i = d → i ≤ l.length → i ≤ m.length → ∀ k, 2 * d + 2 ≤ k →
    spec_BytesCompare.l0 k l m (i : Int) = some (cmpI (l.drop i) (m.drop i)) := by
  induction d with
  | zero =>
    intro i h1 h2 h3 k hk
    obtain ⟨k, rfl⟩ : ∃ q, k = q + 2 := ⟨k - 2, by omega⟩
    have e : l.drop i = [] := List.drop_eq_nil_of_le (by omega)
    simp only [spec_BytesCompare.l0]
    rw [if_neg (by omega)]
    simp only [spec_BytesCompare.j1]
    rw [if_neg (by simp), e]
    rcases Nat.lt_or_ge i m.length with c | c
    · rw [if_pos (by omega), drop_rd m i c]
      rfl
    · rw [if_neg (by omega), if_neg (by omega), List.drop_eq_nil_of_le c]
      rfl
  | succ d ih =>
    intro i h1 h2 h3 k hk
    obtain ⟨k, rfl⟩ : ∃ q, k = q + 2 := ⟨k - 2, by omega⟩
    have hi : i < l.length := by omega
    simp only [spec_BytesCompare.l0]
    rw [if_pos (by omega)]
    simp only [spec_BytesCompare.j1]
    by_cases hm : i < m.length
    · rw [if_pos (by rw [decide_eq_true_iff]; omega), if_pos (by omega), if_pos (by omega), if_pos (by omega), drop_rd l i hi, drop_rd m i hm, cmpI_cons]
      by_cases h : rd l (i : Int) < rd m (i : Int)
      · rw [if_pos h, if_pos h]
      · rw [if_neg h, if_neg h]
        by_cases g : rd l (i : Int) > rd m (i : Int)
        · rw [if_pos g, if_pos g]
        · rw [if_neg g, if_neg g, wrap_up i l.length hi hl, ih (i + 1) (by omega) (by omega) (by omega) k (by omega)]
    · rw [if_neg (by simp; omega), drop_rd l i hi, List.drop_eq_nil_of_le (by omega : m.length ≤ i), if_neg (by omega), if_pos (by omega)]
      rfl

theorem bytesCompare (l m : List Int) (hl : l.length ≤ 9223372036854775807) (k : Nat) (hk : 2 * l.length + 2 ≤ k) : spec_BytesCompare.f k l m = some (cmpI l m) := by
  have h := cmp_l0 l m hl l.length 0 (by omega) (by omega) (by omega) k hk
  simpa [spec_BytesCompare.f] using h

theorem bytesSame (l m : List Int) (hl : l.length ≤ 9223372036854775807) (k : Nat) (hk : 2 * l.length + 2 ≤ k) : spec_BytesSame.f k l m = some (decide (l = m)) := by
  unfold spec_BytesSame.f
  rw [bytesCompare l m hl k hk]
  simp only [Option.bind_some]
  congr 1
  have h2 := @cmpI_zero l m
  by_cases e : l = m
  · simp [e, cmpI_refl]
  · have : ¬ cmpI l m = 0 := fun z => e (h2.1 z)
    simp [e, this]


theorem same_calls {w : World} {A B : Option Addr} {c d : Nat} {l : List Int} (hA : Kd.C (Kd.int .u8) w A l.length l) (hc : l.length ≤ c) (hB : Kd.C (Kd.int .u8) w B l.length l) (hd : l.length ≤ d) :
    Calls Try.prog 14 #[.slice A l.length c, .slice B l.length d] w fun e w' => e = .returned (.bool true) ∧ Below w.heap.size w w' := by
  refine (spec_BytesSame.calls (2 * l.length + 2) A c l B d l true w hA hc hB hd (by rw [bytesSame l l (Kd.C_max hA) _ (Nat.le_refl _)]; simp)).mono ?_
  rintro e w' ⟨rfl, hw⟩
  exact ⟨rfl, hw.below⟩

theorem RecB.len {w : World} {ok : Nat → Prop} {cs : List Value} {rs : List Rec} (h : RecB w ok cs rs) : cs.length = rs.length * 3 := by
  induction h with
  | nil => rfl
  | step _ _ _ ih => simp [ih]; omega

theorem RecB.at_ {w : World} {ok : Nat → Prop} {cs : List Value} {rs : List Rec} (h : RecB w ok cs rs) : ∀ i, i < rs.length → ∃ d k v A a B b, rs[i]? = some (d, k, v) ∧ cs[i * 3]? = some (.bool d) ∧ cs[i * 3 + 1]? = some (.slice A k.length a) ∧ cs[i * 3 + 2]? = some (.slice B v.length b) ∧ Kd.C (Kd.int .u8) w A k.length k ∧ k.length ≤ a ∧ Kd.C (Kd.int .u8) w B v.length v ∧ v.length ≤ b := by
  induction h with
  | nil => intro i hi; cases hi
  | @step cs rs d vk vv k v h hk hv ih =>
    intro i hi
    have hl := h.len
    rcases Nat.lt_or_ge i rs.length with q | q
    · obtain ⟨d', k', v', A, a, B, b, h1, h2, h3, h4, h5⟩ := ih i q
      exact ⟨d', k', v', A, a, B, b, by rw [List.getElem?_append_left q]; exact h1, by rw [List.getElem?_append_left (by omega)]; exact h2, by rw [List.getElem?_append_left (by omega)]; exact h3, by rw [List.getElem?_append_left (by omega)]; exact h4, h5⟩
    · have e : i = rs.length := by simp at hi; omega
      subst e
      obtain ⟨A, a, rfl, h1, h2, _⟩ := hk
      obtain ⟨B, b, rfl, h3, h4, _⟩ := hv
      refine ⟨d, k, v, A, a, B, b, by simp, ?_, ?_, ?_, h1, h2, h3, h4⟩
      · rw [List.getElem?_append_right (by omega), hl, Nat.sub_self]; rfl
      · rw [List.getElem?_append_right (by omega), hl, show rs.length * 3 + 1 - rs.length * 3 = 1 by omega]; rfl
      · rw [List.getElem?_append_right (by omega), hl, show rs.length * 3 + 2 - rs.length * 3 = 2 by omega]; rfl

theorem RecW.recB {w : World} {cs : List Value} {rs : List Rec} (h : RecW w cs rs) : RecB w (fun _ => True) cs rs := by
  induction h with
  | nil => exact .nil
  | step _ h1 h2 ih =>
    obtain ⟨A, a, rfl, h3, h4⟩ := h1
    obtain ⟨B, b, rfl, h5, h6⟩ := h2
    exact .step ih ⟨A, a, rfl, h3, h4, fun _ _ => trivial⟩ ⟨B, b, rfl, h5, h6, fun _ _ => trivial⟩

theorem RecB.later {w w1 : World} {cs : List Value} {rs : List Rec} (h : RecB w (fun _ => True) cs rs) (hb : Below w.heap.size w w1) : RecB w1 (fun _ => True) cs rs := by
  induction h with
  | nil => exact .nil
  | step _ h1 h2 ih =>
    obtain ⟨A, a, rfl, h3, h4, _⟩ := h1
    obtain ⟨B, b, rfl, h5, h6, _⟩ := h2
    exact .step ih ⟨A, a, rfl, Kd.C_below h3 hb, h4, fun _ _ => trivial⟩ ⟨B, b, rfl, Kd.C_below h5 hb, h6, fun _ _ => trivial⟩

set_option maxHeartbeats 1600000 in
set_option maxRecDepth 100000 in
theorem sameRecs_calls {w : World} {b1 b2 : Nat} {v1 v2 : Value} {cs1 cs2 : List Value} {rs : List Rec} (hr1 : w.ownsRow b1 38 3 v1 rs.length cs1) (hc1 : RecB w (fun _ => True) cs1 rs) (hr2 : w.ownsRow b2 41 3 v2 rs.length cs2) (hc2 : RecB w (fun _ => True) cs2 rs) (hl : rs.length ≤ 4294967296) :
    Calls Try.prog 8 #[v1, v2] w fun e w' => e = .returned (.bool true) ∧ Below w.heap.size w w' := by
  obtain ⟨A1, c1, rfl⟩ := own_slice hr1
  obtain ⟨A2, c2, rfl⟩ := own_slice hr2
  have R1 := Lib.hid hr1
  have R2 := Lib.hid hr2
  have C1 := Lib.hid hc1
  have C2 := Lib.hid hc2
  clear hr1 hc1 hr2 hc2
  generalize hn : rs.length = n at *
  have HN := Lib.hid hn
  clear hn
  go_enter Try.func8, Try.ntmps8
  go_wp2
  go_loopw [5] (fun v5 wr => ∃ i : Nat, v5 = .int .i64 (i : Int) ∧ i ≤ n ∧ Hid (Below w.heap.size w wr)) (fun v5 _ => n - (intOf v5).toNat)
  case atStart => exact ⟨0, rfl, Nat.zero_le _, Below.refl _ _⟩
  case round =>
    obtain ⟨i, rfl, hi, HR⟩ := hrel
    by_cases hlt : i < n
    · obtain ⟨d, k, v, Ak, ak, Av, av, h1, h2, h3, h4, h5, h6, h7, h8⟩ := C1.out.at_ i (by rw [HN.out]; exact hlt)
      obtain ⟨d', k', v', Bk, bk, Bv, bv, h1', h2', h3', h4', h5', h6', h7', h8'⟩ := C2.out.at_ i (by rw [HN.out]; exact hlt)
      rw [h1] at h1'
      injection h1' with h1'
      injection h1' with e1 e2
      injection e2 with e2 e3
      subst e1 e2 e3
      obtain ⟨g1, q1, e1, _, t1⟩ := own_cell R1.out (by omega)
      obtain ⟨g2, q2, e2, _, t2⟩ := own_cell R2.out (by omega)
      injection e1 with e1 _ e1'
      injection e2 with e2 _ e2'
      subst e1 e1' e2 e2'
      have x0 : wr.cell? ⟨g1, i * 3, none⟩ = some (.bool d) := pw_cell_below HR.out (t1 _ _ h2)
      have x1 := pw_cell_below HR.out (t1 _ _ h3)
      have x2 := pw_cell_below HR.out (t1 _ _ h4)
      have y0 : wr.cell? ⟨g2, i * 3, none⟩ = some (.bool d) := pw_cell_below HR.out (t2 _ _ h2')
      have y1 := pw_cell_below HR.out (t2 _ _ h3')
      have y2 := pw_cell_below HR.out (t2 _ _ h4')
      have KX0 := cell_regrown x0
      have KX1 := cell_regrown x1
      have KX2 := cell_regrown x2
      have KY0 := cell_regrown y0
      have KY1 := cell_regrown y1
      have KY2 := cell_regrown y2
      have HS : ∀ d os, Hid (Below w.heap.size w (grow (redrawn wr d) os)) := fun d os => below_then HR.out HR.out.size (below_regrown wr d os)
      have SK : ∀ d os, Hid (Calls Try.prog 14 #[.slice Ak k.length ak, .slice Bk k.length bk] (grow (redrawn wr d) os) fun e w' => e = .returned (.bool true) ∧ Below (grow (redrawn wr d) os).heap.size (grow (redrawn wr d) os) w') := fun d os => Lib.hid (same_calls (Kd.C_below h5 (HS d os).out) h6 (Kd.C_below h5' (HS d os).out) h6')
      have SV : ∀ d os, Hid (Calls Try.prog 14 #[.slice Av v.length av, .slice Bv v.length bv] (grow (redrawn wr d) os) fun e w' => e = .returned (.bool true) ∧ Below (grow (redrawn wr d) os).heap.size (grow (redrawn wr d) os) w') := fun d os => Lib.hid (same_calls (Kd.C_below h7 (HS d os).out) h8 (Kd.C_below h7' (HS d os).out) h8')
      clear h1 h2 h3 h4 h5 h6 h7 h8 h2' h3' h4' h5' h6' h7' h8' t1 t2
      cases d
      · go_wp2
        refine wp_region_quiet_below (by kernel_rfl) (by kernel_rfl) ?_
        repeat (go_big_quiet_step (first
          | (go_at_call 14; with_reducible exact Calls.regrown_of (SK _ _).out)
          | (go_at_call 14; with_reducible exact Calls.regrown_of (SV _ _).out)))
        refine wpQuiet_nil ?_
        intro _ hw'
        obtain ⟨⟨dq, osq⟩, hw''⟩ := hw'
        subst hw''
        go_wp2
        go_roundw
        case rel => exact ⟨i + 1, by go_num, by omega, HS _ _⟩
        case measure => simp [intOf]; omega
      · go_wp2
        refine wp_region_quiet_below (by kernel_rfl) (by kernel_rfl) ?_
        repeat (go_big_quiet_step (first
          | (go_at_call 14; with_reducible exact Calls.regrown_of (SK _ _).out)))
        refine wpQuiet_nil ?_
        intro _ hw'
        obtain ⟨⟨dq, osq⟩, hw''⟩ := hw'
        subst hw''
        go_wp2
        go_roundw
        case rel => exact ⟨i + 1, by go_num, by omega, HS _ _⟩
        case measure => simp [intOf]; omega
    · have : i = n := by omega
      subst this
      go_wp2
      go_ret
      exact ⟨rfl, HR.out⟩

end Go.Proofs.Ytddjenmengipkaa.Bt
