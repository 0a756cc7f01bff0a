/- Separator and Successor of the order of bytes: their contracts. -/
import Derived.Test.YtpdibidfjhjoeaaDoorCon
import Derived.Test.YtpdibidfjhjoeaaDoorSepPlain
import Derived.LoopTactic
import Derived.Deep.DeepCutAuto
namespace Go.Proofs.YtpdibidfjhjoeaaDoor.Sep
open Go.RowKit Go.Proofs.YtpdibidfjhjoeaaDoorW.PrintWords Go.Proofs.YtpdibidfjhjoeaaDoor.Cmp Go.Proofs.YtpdibidfjhjoeaaDoor.Run Go.Proofs.YtpdibidfjhjoeaaDoor.Con Go.Proofs.YtpdibidfjhjoeaaDoor.SepPlain
set_option linter.unusedVariables false

theorem info_u8 : (Tryd.prog.info? 5).map (fun i => (i.zero, i.size, i.bytes)) = some (some (.int .u8 0), 1, 1) := by kernel_rfl
theorem C_ints {w : World} {A : Option Addr} {n : Nat} {l : List Int} (h : Kd.C (Kd.int .u8) w A n l) : ReadsInt w .u8 A n l := Kd.reads_of_C (d := (0 : Int)) h
theorem ints_C {w : World} {A : Option Addr} {n : Nat} {l : List Int} (h : ReadsInt w .u8 A n l) : Kd.C (Kd.int .u8) w A n l := Kd.C_of_reads (d := (0 : Int)) (h1 := fun _ => rfl) h

theorem C_front {w w1 : World} {A : Option Addr} {l : List Int} (h : Kd.C (Kd.int .u8) w A l.length l) (hb : Below w.heap.size w w1) (i : Int) (h0 : 0 ≤ i) (h1 : i ≤ l.length) : Kd.C (Kd.int .u8) w1 A i.toNat (l.take i.toNat) := by
  have := Kd.C_take (Kd.C_below h hb) (m := i.toNat) (by omega)
  rwa [List.length_take, Nat.min_eq_left (by omega)] at this

theorem rd_last (ds la : List Int) (i : Int) (h0 : 0 ≤ i) (h : i < la.length) (n : Nat) (hn : n = ds.length + (i + 1).toNat) : rd (ds ++ la.take (i + 1).toNat) ((n : Int) - 1) = rd la i := by
  have e : ((n : Int) - 1).toNat = ds.length + i.toNat := by omega
  have e2 : (i + 1).toNat = i.toNat + 1 := by omega
  unfold rd
  rw [e, e2, take_snoc la i.toNat (by omega), ← List.append_assoc]
  have hl : (ds ++ la.take i.toNat).length = ds.length + i.toNat := by simp; omega
  rw [List.getD_eq_getElem?_getD, List.getElem?_append_right (by omega), hl]
  simp

theorem set_last (ds la : List Int) (i : Int) (h0 : 0 ≤ i) (h : i < la.length) (n : Nat) (hn : n = ds.length + (i + 1).toNat) :
    (ds ++ la.take (i + 1).toNat).set (n - 1) (rd la i + 1) = ds ++ (la.take i.toNat ++ [rd la i + 1]) := by
  have e2 : (i + 1).toNat = i.toNat + 1 := by omega
  have hl : (ds ++ la.take i.toNat).length = n - 1 := by simp; omega
  rw [e2, take_snoc la i.toNat (by omega), ← List.append_assoc, ← List.append_assoc, List.set_append_right _ _ (by omega), hl]
  simp

theorem own_form {w : World} {base : Nat} {e : TypeId} {size n : Nat} {v : Value} {xs : List Value} (h : w.ownsRow base e size v n xs) (hn : 0 < n) : ∃ g cap, v = .slice (some ⟨g, 0, none⟩) n cap ∧ base ≤ g := by
  rcases h.2 with ⟨_, h0⟩ | ⟨g, cap, cur, hv, hb, _⟩
  · omega
  · exact ⟨g, cap, hv, hb⟩

theorem getD_mem (l : List Int) (n : Nat) (h : n < l.length) : l.getD n 0 ∈ l := by
  rw [List.getD_eq_getElem?_getD, List.getElem?_eq_getElem h]
  exact List.getElem_mem h

theorem rd_getD (l : List Int) (i : Int) : rd l i = l.getD i.toNat 0 := rfl

set_option maxHeartbeats 1600000 in
theorem sep_none {w : World} {dv : Value} {A : Option Addr} {ca : Nat} {la : List Int} {B : Option Addr} {cb : Nat} {lb : List Int}
    (ha : Kd.C (Kd.int .u8) w A la.length la) (hb : Kd.C (Kd.int .u8) w B lb.length lb) (hca : la.length ≤ ca) (ba : Byt la) (bb : Byt lb) (h : sepI la lb = none) :
    Calls Tryd.prog 26 #[.agg #[], dv, .slice A la.length ca, .slice B lb.length cb] w fun e w' => e = .returned (.slice none 0 0) ∧ Below w.heap.size w w' := by
  have HA := Lib.hid ha
  have HB := Lib.hid hb
  have HN := Lib.hid h
  have BA := Lib.hid ba
  have BB := Lib.hid bb
  have ma := Kd.C_max ha
  have mb := Kd.C_max hb
  clear ha hb h ba bb
  by_cases hlen : lb.length < la.length
  all_goals
    go_enter Tryd.func26, Tryd.ntmps26
    go_wp2
    go_loopw [9] (fun v wr => ∃ i : Int, v = .int .i64 i ∧ 0 ≤ i ∧ i ≤ la.length ∧ i ≤ lb.length ∧ Hid (la.take i.toNat = lb.take i.toNat) ∧ Hid (Below w.heap.size w wr)) (fun v _ => la.length - (intOf v).toNat)
    case atStart => exact ⟨0, rfl, by omega, by omega, by omega, by simp [Hid], below_alloc (Below.refl _ _) _⟩
    case round =>
      obtain ⟨i, rfl, i0, ia, ib, HP, HR⟩ := hrel
      by_cases hk : i < la.length ∧ i < lb.length
      · obtain ⟨h1, h2⟩ := hk
        obtain ⟨ad, rfl, x1⟩ := Kd.at_int (Kd.C_below HA.out HR.out) i i0 h1
        obtain ⟨bd, rfl, x2⟩ := Kd.at_int (Kd.C_below HB.out HR.out) i i0 h2
        have d1 : decide (i < (la.length : Int)) = true := decide_eq_true h1
        have d2 : decide (i < (lb.length : Int)) = true := decide_eq_true h2
        by_cases he : rd la i = rd lb i
        · have he1 : (rd la i == rd lb i) = true := beq_iff_eq.2 he
          have hn : Hid (la.take (i + 1).toNat = lb.take (i + 1).toNat) := by
            have e : (i + 1).toNat = i.toNat + 1 := by omega
            show _ = _
            rw [e, take_snoc la _ (by omega), take_snoc lb _ (by omega), HP.out]
            rw [rd_getD, rd_getD] at he
            rw [he]
          clear he
          go_wp2
          go_quiet (fail)
          go_wp2
          go_roundw
          case rel => exact ⟨i + 1, rfl, by omega, by omega, by omega, hn, pw_below_drewN HR.out _⟩
          case measure => simp [intOf]; omega
        · have he1 : (rd la i == rd lb i) = false := beq_eq_false_iff_ne.2 he
          have hs := sepI_at la lb i.toNat (by omega) (by omega) HP.out (by rw [rd_getD, rd_getD] at he; exact he)
          rw [HN.out] at hs
          have hno : ¬ (rd la i < 255 ∧ rd la i + 1 < rd lb i) := by
            intro c
            rw [rd_getD, rd_getD] at c
            rw [if_pos c] at hs
            cases hs
          clear hs he
          have r1 := BA.out (rd la i) (by rw [rd_getD]; exact getD_mem _ _ (by omega))
          have r2 := BB.out (rd lb i) (by rw [rd_getD]; exact getD_mem _ _ (by omega))
          obtain ⟨r1a, r1b⟩ := r1
          obtain ⟨r2a, r2b⟩ := r2
          by_cases hc : rd la i < 255
          · have hc1 : ¬ rd la i + 1 < rd lb i := fun z => hno ⟨hc, z⟩
            clear hno
            go_wp2
            go_quiet (fail)
            go_wp2
            go_ret
            exact ⟨rfl, pw_below_drewN HR.out _⟩
          · clear hno
            go_wp2
            go_quiet (fail)
            go_wp2
            go_ret
            exact ⟨rfl, pw_below_drewN HR.out _⟩
      · first
          | have d1 : decide (i < (lb.length : Int)) = false := decide_eq_false (by omega)
          | have d1 : decide (i < (la.length : Int)) = false := decide_eq_false (by omega)
        go_wp2
        go_quiet (fail)
        go_wp2
        go_ret
        exact ⟨rfl, pw_below_drewN HR.out _⟩

/-- what is told: a row of the caller's own, and nothing else has changed -/
def SomeRow (base : Nat) (w : World) (l : List Int) (e : Ending) (w' : World) : Prop := ∃ v, e = .returned v ∧ w'.ownsRow base 5 1 v l.length (nums .u8 l) ∧ Below base w w'

set_option maxRecDepth 100000 in
set_option maxHeartbeats 1600000 in
theorem sep_some {w : World} {dv : Value} {ds s : List Int} (base : Nat) (hown : w.ownsRow base 5 1 dv ds.length (nums .u8 ds)) (hbase : base ≤ w.heap.size) {A : Option Addr} {ca : Nat} {la : List Int} {B : Option Addr} {cb : Nat} {lb : List Int}
    (ha : Kd.C (Kd.int .u8) w A la.length la) (hb : Kd.C (Kd.int .u8) w B lb.length lb) (hca : la.length ≤ ca) (ba : Byt la) (bb : Byt lb) (h : sepI la lb = some s) (hl : ds.length + la.length ≤ 70368744177664) :
    Calls Tryd.prog 26 #[.agg #[], dv, .slice A la.length ca, .slice B lb.length cb] w (SomeRow base w (ds ++ s)) := by
  have HO := Lib.hid hown
  clear hown
  have HA := Lib.hid ha
  have HB := Lib.hid hb
  have HN := Lib.hid h
  have BA := Lib.hid ba
  have BB := Lib.hid bb
  have ma := Kd.C_max ha
  have mb := Kd.C_max hb
  clear ha hb h ba bb
  by_cases hlen : lb.length < la.length
  all_goals
    go_enter Tryd.func26, Tryd.ntmps26
    go_wp2
    go_loopw [9] (fun v wr => ∃ i : Int, v = .int .i64 i ∧ 0 ≤ i ∧ i ≤ la.length ∧ i ≤ lb.length ∧ Hid (la.take i.toNat = lb.take i.toNat) ∧ Hid (Below w.heap.size w wr)) (fun v _ => la.length - (intOf v).toNat)
    case atStart => exact ⟨0, rfl, by omega, by omega, by omega, by simp [Hid], below_alloc (Below.refl _ _) _⟩
    case round =>
      obtain ⟨i, rfl, i0, ia, ib, HP, HR⟩ := hrel
      by_cases hk : i < la.length ∧ i < lb.length
      · obtain ⟨h1, h2⟩ := hk
        obtain ⟨ad, rfl, x1⟩ := Kd.at_int (Kd.C_below HA.out HR.out) i i0 h1
        obtain ⟨bd, rfl, x2⟩ := Kd.at_int (Kd.C_below HB.out HR.out) i i0 h2
        have d1 : decide (i < (la.length : Int)) = true := decide_eq_true h1
        have d2 : decide (i < (lb.length : Int)) = true := decide_eq_true h2
        by_cases he : rd la i = rd lb i
        · have he1 : (rd la i == rd lb i) = true := beq_iff_eq.2 he
          have hn : Hid (la.take (i + 1).toNat = lb.take (i + 1).toNat) := by
            have e : (i + 1).toNat = i.toNat + 1 := by omega
            show _ = _
            rw [e, take_snoc la _ (by omega), take_snoc lb _ (by omega), HP.out]
            rw [rd_getD, rd_getD] at he
            rw [he]
          clear he
          go_wp2
          go_quiet (fail)
          go_wp2
          go_roundw
          case rel => exact ⟨i + 1, rfl, by omega, by omega, by omega, hn, pw_below_drewN HR.out _⟩
          case measure => simp [intOf]; omega
        · have he1 : (rd la i == rd lb i) = false := beq_eq_false_iff_ne.2 he
          have hs := sepI_at la lb i.toNat (by omega) (by omega) HP.out (by rw [rd_getD, rd_getD] at he; exact he)
          rw [HN.out] at hs
          have hyes : rd la i < 255 ∧ rd la i + 1 < rd lb i := by
            by_cases c : rd la i < 255 ∧ rd la i + 1 < rd lb i
            · exact c
            · rw [rd_getD, rd_getD] at c
              rw [if_neg c] at hs
              cases hs
          obtain ⟨hy1, hy2⟩ := hyes
          rw [if_pos (show la.getD i.toNat 0 < 255 ∧ la.getD i.toNat 0 + 1 < lb.getD i.toNat 0 from ⟨hy1, hy2⟩)] at hs
          injection hs with hs
          have HS := Lib.hid hs
          clear hs he
          have r1 := BA.out (rd la i) (by rw [rd_getD]; exact getD_mem _ _ (by omega))
          have r2 := BB.out (rd lb i) (by rw [rd_getD]; exact getD_mem _ _ (by omega))
          obtain ⟨r1a, r1b⟩ := r1
          obtain ⟨r2a, r2b⟩ := r2
          go_wp2
          go_quiet (fail)
          have HRq : Hid (Below w.heap.size w (wr.drewN nq)) := pw_below_drewN HR.out _
          go_wp2_with (at_builtin; go_loud (refine print_append_row base rfl (.tmp 54) (.tmp 58) 22 5 .u8 1 rfl Tryd.underlying22 info_u8 (by decide) dv ds (la.take (i + 1).toNat) _ _ _ rfl rfl (pw_own_below HO.out HRq.out) (C_ints (C_front HA.out HRq.out (i + 1) (by omega) (by omega))) (HRq.out.mono hbase) (Nat.le_trans hbase HRq.out.size) (by omega) ?_); intro v1 w1 ho1 hb1 _ _; have HB1 := Lib.hid hb1; clear hb1; obtain ⟨xs, hxs⟩ : ∃ xs, xs = ds ++ la.take (i + 1).toNat := ⟨_, rfl⟩; rw [← hxs] at ho1; have hn1 : xs.length = ds.length + (i + 1).toNat := (by rw [hxs]; simp; omega); have HX := Lib.hid hxs; clear hxs; obtain ⟨g, cap, rfl, hg⟩ := own_form ho1 (by omega); generalize hn : xs.length = n at ho1 hn1 ⊢; have n1 : 1 ≤ n := (by omega); have n2 : n ≤ 70368744177664 := (by omega); obtain ⟨c1, c2⟩ := own_at ho1 ((n : Int) - 1) (by omega) (by omega); have en : ((n : Int) - 1).toNat = n - 1 := (by omega); rw [en] at c1 c2; have ev : rd xs ((n : Int) - 1) = rd la i := (by rw [HX.out]; exact rd_last ds la i i0 h1 n (by rw [← hn1])); rw [ev] at c1; clear ev en; have HN1 := Lib.hid hn1; clear hn1 hn; have HO1 := Lib.hid ho1; clear ho1)
          go_ret
          obtain ⟨o1, o2⟩ := own_store HO1.out (((n - 1 : Nat)) : Int) (rd la i + 1)
          simp only [Int.toNat_natCast] at o1
          have ex : ds ++ s = xs.set (n - 1) (rd la i + 1) := by rw [HX.out, HS.out, ← rd_getD]; exact (set_last ds la i i0 h1 n HN1.out).symm
          rw [ex]
          refine ⟨_, rfl, ?_, Below.setCell HB1.out hg _⟩
          have el : (xs.set (n - 1) (rd la i + 1)).length = n := by rw [List.length_set]; have := HO1.out.1; simp [nums] at this; omega
          rw [el]
          exact o1
      · first
          | have d1 : decide (i < (lb.length : Int)) = false := decide_eq_false (by omega)
          | have d1 : decide (i < (la.length : Int)) = false := decide_eq_false (by omega)
        exfalso
        have := sepI_end la lb i.toNat (by omega) (by omega) HP.out (by omega)
        rw [HN.out] at this
        cases this

set_option maxRecDepth 100000 in
set_option maxHeartbeats 1600000 in
theorem succ_none {w : World} {dv : Value} {B : Option Addr} {cb : Nat} {lb : List Int}
    (hb : Kd.C (Kd.int .u8) w B lb.length lb) (hcb : lb.length ≤ cb) (bb : Byt lb) (h : succI lb = none) :
    Calls Tryd.prog 25 #[.agg #[], dv, .slice B lb.length cb] w fun e w' => e = .returned (.slice none 0 0) ∧ Below w.heap.size w w' := by
  have HB := Lib.hid hb
  have HN := Lib.hid h
  have BB := Lib.hid bb
  have mb := Kd.C_max hb
  clear hb h bb
  go_enter Tryd.func25, Tryd.ntmps25
  go_wp2
  go_loopw [11] (fun v wr => ∃ i : Int, v = .int .i64 i ∧ 0 ≤ i ∧ i ≤ lb.length ∧ Hid (lb.take i.toNat = List.replicate i.toNat 255) ∧ Hid (Below w.heap.size w wr)) (fun v _ => lb.length - (intOf v).toNat)
  case atStart => exact ⟨0, rfl, by omega, by omega, by simp [Hid], below_alloc (Below.refl _ _) _⟩
  case round =>
    obtain ⟨i, rfl, i0, ib, HP, HR⟩ := hrel
    by_cases h2 : i < lb.length
    · obtain ⟨bd, rfl, x2⟩ := Kd.at_int (Kd.C_below HB.out HR.out) i i0 h2
      have r2 := BB.out (rd lb i) (by rw [rd_getD]; exact getD_mem _ _ (by omega))
      obtain ⟨r2a, r2b⟩ := r2
      by_cases he : rd lb i = 255
      · have he1 : (rd lb i != 255) = false := by rw [bne_eq_false_iff_eq]; exact he
        have hn : Hid (lb.take (i + 1).toNat = List.replicate (i + 1).toNat 255) := by
          have e : (i + 1).toNat = i.toNat + 1 := by omega
          show _ = _
          rw [e, take_snoc lb _ (by omega), HP.out, List.replicate_succ', ← rd_getD, he]
        clear he
        go_wp2
        go_roundw
        case rel => exact ⟨i + 1, rfl, by omega, by omega, hn, HR⟩
        case measure => simp [intOf]; omega
      · have he1 : (rd lb i != 255) = true := bne_iff_ne.2 he
        have hs := succI_at lb i.toNat (by omega) HP.out (by rw [← rd_getD]; exact he)
        rw [HN.out] at hs
        cases hs
    · go_wp2
      go_ret
      exact ⟨rfl, HR.out⟩

set_option maxRecDepth 100000 in
set_option maxHeartbeats 1600000 in
theorem succ_some {w : World} {dv : Value} {ds s : List Int} (base : Nat) (hown : w.ownsRow base 5 1 dv ds.length (nums .u8 ds)) (hbase : base ≤ w.heap.size) {B : Option Addr} {cb : Nat} {lb : List Int}
    (hb : Kd.C (Kd.int .u8) w B lb.length lb) (hcb : lb.length ≤ cb) (bb : Byt lb) (h : succI lb = some s) (hl : ds.length + lb.length ≤ 70368744177664) :
    Calls Tryd.prog 25 #[.agg #[], dv, .slice B lb.length cb] w (SomeRow base w (ds ++ s)) := by
  have HO := Lib.hid hown
  clear hown
  have HB := Lib.hid hb
  have HN := Lib.hid h
  have BB := Lib.hid bb
  have mb := Kd.C_max hb
  clear hb h bb
  go_enter Tryd.func25, Tryd.ntmps25
  go_wp2
  go_loopw [1, 11] (fun d v wr => d = dv ∧ ∃ i : Int, v = .int .i64 i ∧ 0 ≤ i ∧ i ≤ lb.length ∧ Hid (lb.take i.toNat = List.replicate i.toNat 255) ∧ Hid (Below w.heap.size w wr)) (fun _ v _ => lb.length - (intOf v).toNat)
  case atStart => exact ⟨rfl, 0, rfl, by omega, by omega, by simp [Hid], below_alloc (Below.refl _ _) _⟩
  case round =>
    obtain ⟨rfl, i, rfl, i0, ib, HP, HR⟩ := hrel
    by_cases h2 : i < lb.length
    · obtain ⟨bd, rfl, x2⟩ := Kd.at_int (Kd.C_below HB.out HR.out) i i0 h2
      have r2 := BB.out (rd lb i) (by rw [rd_getD]; exact getD_mem _ _ (by omega))
      obtain ⟨r2a, r2b⟩ := r2
      by_cases he : rd lb i = 255
      · have he1 : (rd lb i != 255) = false := by rw [bne_eq_false_iff_eq]; exact he
        have hn : Hid (lb.take (i + 1).toNat = List.replicate (i + 1).toNat 255) := by
          have e : (i + 1).toNat = i.toNat + 1 := by omega
          show _ = _
          rw [e, take_snoc lb _ (by omega), HP.out, List.replicate_succ', ← rd_getD, he]
        clear he
        go_wp2
        go_roundw
        case rel => exact ⟨rfl, i + 1, rfl, by omega, by omega, hn, HR⟩
        case measure => simp [intOf]; omega
      · have he1 : (rd lb i != 255) = true := bne_iff_ne.2 he
        have hs := succI_at lb i.toNat (by omega) HP.out (by rw [← rd_getD]; exact he)
        rw [HN.out] at hs
        injection hs with hs
        have HS := Lib.hid hs
        have r2c : rd lb i < 255 := by omega
        clear hs he
        go_wp2_with (at_builtin; go_loud (refine print_append_row base rfl (.tmp 18) (.tmp 22) 22 5 .u8 1 rfl Tryd.underlying22 info_u8 (by decide) _ ds (lb.take (i + 1).toNat) _ _ _ rfl rfl (pw_own_below HO.out HR.out) (C_ints (C_front HB.out HR.out (i + 1) (by omega) (by omega))) (HR.out.mono hbase) (Nat.le_trans hbase HR.out.size) (by omega) ?_); intro v1 w1 ho1 hb1 _ _; have HB1 := Lib.hid hb1; clear hb1; obtain ⟨xs, hxs⟩ : ∃ xs, xs = ds ++ lb.take (i + 1).toNat := ⟨_, rfl⟩; rw [← hxs] at ho1; have hn1 : xs.length = ds.length + (i + 1).toNat := (by rw [hxs]; simp; omega); have HX := Lib.hid hxs; clear hxs; obtain ⟨g, cap, rfl, hg⟩ := own_form ho1 (by omega); generalize hn : xs.length = n at ho1 hn1 ⊢; have n1 : 1 ≤ n := (by omega); have n2 : n ≤ 70368744177664 := (by omega); obtain ⟨c1, c2⟩ := own_at ho1 ((n : Int) - 1) (by omega) (by omega); have en : ((n : Int) - 1).toNat = n - 1 := (by omega); rw [en] at c1 c2; have ev : rd xs ((n : Int) - 1) = rd lb i := (by rw [HX.out]; exact rd_last ds lb i i0 h2 n (by rw [← hn1])); rw [ev] at c1; clear ev en; have HN1 := Lib.hid hn1; clear hn1 hn; have HO1 := Lib.hid ho1; clear ho1)
        go_ret
        obtain ⟨o1, o2⟩ := own_store HO1.out (((n - 1 : Nat)) : Int) (rd lb i + 1)
        simp only [Int.toNat_natCast] at o1
        have ex : ds ++ s = xs.set (n - 1) (rd lb i + 1) := by rw [HX.out, HS.out, ← rd_getD]; exact (set_last ds lb i i0 h2 n HN1.out).symm
        rw [ex]
        refine ⟨_, rfl, ?_, Below.setCell HB1.out hg _⟩
        have el : (xs.set (n - 1) (rd lb i + 1)).length = n := by rw [List.length_set]; have := HO1.out.1; simp [nums] at this; omega
        rw [el]
        exact o1
    · exfalso
      have e := succI_end lb (by have z := HP.out; rw [show i.toNat = lb.length from by omega, List.take_length] at z; exact z)
      rw [HN.out] at e
      cases e

end Go.Proofs.YtpdibidfjhjoeaaDoor.Sep
