/- The law FnBatchBytes' own helpers: recs, zzFits5, fewRecs. -/
import Derived.Test.YtddjenmengipkaaBbSpec
namespace Go.Proofs.Ytddjenmengipkaa.Bt
open Go.RowKit Go.Proofs.YtddjenmengipkaaW.PrintWords Go.Proofs.YtddjenmengipkaaW.PrintMore Go.Proofs.Ytddjenmengipkaa.PFnBatchLoads Go.Proofs.Ytddjenmengipkaa.Cmp
set_option linter.unusedVariables false

set_option maxHeartbeats 1600000 in
set_option maxRecDepth 100000 in
theorem recs_calls {w : World} {A : Option Addr} {c : Nat} {rs : List Rec} (h : Kd.C kR w A rs.length rs) (hl : rs.length ≤ 4096) :
    Calls Try.prog 12 #[.slice A rs.length c] w fun e w' => (∃ v cs, e = .returned v ∧ w'.ownsRow w.heap.size 41 3 v rs.length cs ∧ RecB w' (fun _ => True) cs rs) ∧ Below w.heap.size w w' := by
  have HC := Lib.hid h
  clear h
  generalize hn : rs.length = n at *
  have HN := Lib.hid hn
  clear hn
  go_enter Try.func12, Try.ntmps12
  go_wp2
  go_loopw [3, 4] (fun v3 v4 wr => ∃ (i : Nat) (cs : List Value), v4 = .int .i64 (i : Int) ∧ i ≤ n ∧ Hid (wr.ownsRow w.heap.size 41 3 v3 i cs) ∧ Hid (RecB w (fun _ => True) cs (rs.take i)) ∧ Hid (Below w.heap.size w wr)) (fun _ v4 _ => n - (intOf v4).toNat)
  case atStart => exact ⟨0, [], rfl, Nat.zero_le _, own_nil _ _ _ _, .nil, Below.refl _ _⟩
  case round =>
    obtain ⟨i, cs, rfl, hi, HO, HW, HR⟩ := hrel
    by_cases hlt : i < n
    · obtain ⟨ad, d, k, v, K, kc, V, vc, hA, hx, c0, c1, c2, hk, hkc, hv, hvc⟩ := at_R HC.out i hlt
      subst hA
      have x0 := pw_cell_below HR.out c0
      have x1 := pw_cell_below HR.out c1
      have x2 := pw_cell_below HR.out c2
      have HX := Lib.hid (take_next' hx)
      have HW2 := Lib.hid (RecB.step (d := d) HW.out ⟨K, kc, rfl, hk, hkc, fun _ _ => trivial⟩ ⟨V, vc, rfl, hv, hvc, fun _ _ => trivial⟩)
      generalize k.length = kn at *
      generalize v.length = vn at *
      have C0 := Lib.hid c0
      have C1 := Lib.hid c1
      have C2 := Lib.hid c2
      clear c0 c1 c2 hx
      go_wp2
      have ne0 := World.new_ne wr _ x0
      have ne1 := World.new_ne wr _ x1
      have ne2 := World.new_ne wr _ x2
      go_region_held3 (fun W => W.cell? (ad.add (i * 3)) = some (.bool d) ∧ W.cell? ⟨(ad.add (i * 3)).block, (ad.add (i * 3)).off + 1, none⟩ = some (.slice K kn kc) ∧ W.cell? ⟨(ad.add (i * 3)).block, (ad.add (i * 3)).off + 2, none⟩ = some (.slice V vn vc)) (first | assumption | go_keep)
        (first
          | (refine step_append_cells (W := wr.drew) w.heap.size rfl (.tmp 11) (.tmp 28) 24 41 _ 3 56 rfl Try.underlying24 info_rec rfl (by decide) (by decide) _ i cs [.bool d, .slice K kn kc, .slice V vn vc] rfl rfl rfl (by simp [Value.oneCell']) HO.out.drew HR.out.drew HR.out.size (by omega) ?_; intro v5 w5 ho5 hb5 hg5 _; have hs5 : w5.cell? (ad.add (i * 3)) = some (.bool d) ∧ w5.cell? ⟨(ad.add (i * 3)).block, (ad.add (i * 3)).off + 1, none⟩ = some (.slice K kn kc) ∧ w5.cell? ⟨(ad.add (i * 3)).block, (ad.add (i * 3)).off + 2, none⟩ = some (.slice V vn vc) := ⟨pw_cell_below hb5 C0.out, pw_cell_below hb5 C1.out, pw_cell_below hb5 C2.out⟩))
      go_wp2
      go_roundw
      case rel => exact ⟨i + 1, _, by go_num, by omega, Lib.hid ho5, Lib.hid (by rw [← HX.out]; exact HW2.out), Lib.hid hb5⟩
      case measure => simp [intOf]; omega
    · have : i = n := by omega
      subst this
      have hT : rs.take i = rs := by rw [← HN.out]; exact List.take_length
      rw [hT] at HW
      go_wp2
      go_ret
      exact ⟨⟨_, cs, rfl, HO.out, HW.out.later HR.out⟩, HR.out⟩

set_option maxHeartbeats 400000 in
set_option maxRecDepth 100000 in
theorem fits6_true {w : World} {d : Bool} {K : Option Addr} {n c : Nat} {V : Option Addr} {m e : Nat} (hn : (n : Int) ≤ 2147483647) (hm : (m : Int) ≤ 2147483647) :
    Calls Try.prog 21 #[.agg #[.bool d, .slice K n c, .slice V m e]] w fun x w' => x = .returned (.bool true) ∧ Below w.heap.size w w' := by
  have h1 : decide (2147483647 < (n : Int)) = false := decide_eq_false (by omega)
  have h2 : decide (2147483647 < (m : Int)) = false := decide_eq_false (by omega)
  go_enter Try.func21, Try.ntmps21
  go_wp2
  go_ret
  exact ⟨rfl, by repeat (first | exact Below.refl _ _ | apply below_alloc)⟩

set_option maxRecDepth 100000 in
theorem fits6_false {w : World} {d : Bool} {K : Option Addr} {n c : Nat} {V : Option Addr} {m e : Nat} (h : ¬ ((n : Int) ≤ 2147483647 ∧ (m : Int) ≤ 2147483647)) :
    Calls Try.prog 21 #[.agg #[.bool d, .slice K n c, .slice V m e]] w fun x w' => x = .returned (.bool false) ∧ Below w.heap.size w w' := by
  by_cases h1 : 2147483647 < (n : Int)
  · clear h
    go_enter Try.func21, Try.ntmps21
    go_wp2
    go_ret
    exact ⟨rfl, by repeat (first | exact Below.refl _ _ | apply below_alloc)⟩
  · have h2 : 2147483647 < (m : Int) := by omega
    clear h
    go_enter Try.func21, Try.ntmps21
    go_wp2
    go_ret
    exact ⟨rfl, by repeat (first | exact Below.refl _ _ | apply below_alloc)⟩

/-- nothing longer than 2^31 - 1 -/
def Fit (rs : List Rec) : Prop := rs.length ≤ 2147483647 ∧ ∀ r ∈ rs, r.2.1.length ≤ 2147483647 ∧ r.2.2.length ≤ 2147483647

def FitTold (rs : List Rec) (w : World) (e : Ending) (w' : World) : Prop := (∃ b : Bool, e = .returned (.bool b) ∧ (b = true → Fit rs)) ∧ Below w.heap.size w w'

theorem fit_snoc {rs : List Rec} {i : Nat} {x : Rec} (h : ∀ r ∈ rs.take i, r.2.1.length ≤ 2147483647 ∧ r.2.2.length ≤ 2147483647) (hx : rs.take i ++ [x] = rs.take (i + 1)) (h1 : x.2.1.length ≤ 2147483647) (h2 : x.2.2.length ≤ 2147483647) : ∀ r ∈ rs.take (i + 1), r.2.1.length ≤ 2147483647 ∧ r.2.2.length ≤ 2147483647 := by
  intro r hr
  rw [← hx] at hr
  rcases List.mem_append.1 hr with q | q
  · exact h r q
  · rw [List.mem_singleton.1 q]; exact ⟨h1, h2⟩

set_option maxHeartbeats 800000 in
set_option maxRecDepth 100000 in
theorem fits5_calls {w : World} {A : Option Addr} {c : Nat} {rs : List Rec} (h : Kd.C kR w A rs.length rs) :
    Calls Try.prog 9 #[.slice A rs.length c] w (FitTold rs w) := by
  have HC := Lib.hid h
  have hmx := Kd.C_max h
  clear h
  generalize hn : rs.length = n at *
  have HN := Lib.hid hn
  clear hn
  by_cases hbig : 2147483647 < (n : Int)
  · go_enter Try.func9, Try.ntmps9
    go_wp2
    go_ret
    exact ⟨⟨false, rfl, by simp⟩, Below.refl _ _⟩
  · have hn31 : n ≤ 2147483647 := by omega
    clear hmx
    go_enter Try.func9, Try.ntmps9
    go_wp2
    go_loopw [10] (fun v10 wr => ∃ i : Nat, v10 = .int .i64 (i : Int) ∧ i ≤ n ∧ Hid (∀ r ∈ rs.take i, r.2.1.length ≤ 2147483647 ∧ r.2.2.length ≤ 2147483647) ∧ Hid (Below w.heap.size w wr)) (fun v10 _ => n - (intOf v10).toNat)
    case atStart => exact ⟨0, rfl, Nat.zero_le _, Lib.hid (by simp), Below.refl _ _⟩
    case round =>
      obtain ⟨i, rfl, hi, HF, HR⟩ := hrel
      by_cases hlt : i < n
      · obtain ⟨ad, d, k, v, K, kc, V, vc, hA, hx, c0, c1, c2, hk, hkc, hv, hvc⟩ := at_R (Kd.C_below HC.out HR.out) i hlt
        subst hA
        have HX := Lib.hid (take_next' hx)
        have hb1 := below_alloc (Below.refl wr.heap.size wr) (.cells #[.bool d, .slice K k.length kc, .slice V v.length vc] 38)
        have HB1 := Lib.hid (below_then HR.out HR.out.size hb1)
        clear hx hk hkc hv hvc hb1
        by_cases hf : (k.length : Int) ≤ 2147483647 ∧ (v.length : Int) ≤ 2147483647
        · have h6 := fun W => Lib.hid (fits6_true (w := W) (d := d) (K := K) (c := kc) (V := V) (e := vc) hf.1 hf.2)
          have HFF := Lib.hid (fit_snoc HF.out HX.out (by have := hf.1; simp only; omega) (by have := hf.2; simp only; omega))
          clear hf
          generalize k.length = kn at *
          generalize v.length = vn at *
          go_wp2_with (go_at_call 21; (with_reducible refine (h6 _).out.mono ?_); rintro e w4 ⟨rfl, hb4⟩)
          go_roundw
          case rel => exact ⟨i + 1, by go_num, by omega, HFF, Lib.hid (below_then HB1.out HB1.out.size hb4)⟩
          case measure => simp [intOf]; omega
        · have h6 := fun W => Lib.hid (fits6_false (w := W) (d := d) (K := K) (c := kc) (V := V) (e := vc) hf)
          clear hf
          generalize k.length = kn at *
          generalize v.length = vn at *
          go_wp2_with (go_at_call 21; (with_reducible refine (h6 _).out.mono ?_); rintro e w4 ⟨rfl, hb4⟩)
          go_ret
          exact ⟨⟨false, rfl, by simp⟩, below_then HB1.out HB1.out.size hb4⟩
      · have : i = n := by omega
        subst this
        have hT : rs.take i = rs := by rw [← HN.out]; exact List.take_length
        rw [hT] at HF
        go_wp2
        go_ret
        exact ⟨⟨true, rfl, fun _ => ⟨by rw [HN.out]; exact hn31, HF.out⟩⟩, HR.out⟩

end Go.Proofs.Ytddjenmengipkaa.Bt
