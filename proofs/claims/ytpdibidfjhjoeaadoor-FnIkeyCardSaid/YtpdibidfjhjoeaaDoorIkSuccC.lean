/- Internal keys: successor and separator, at the doors. -/
import Derived.Test.YtpdibidfjhjoeaaDoorIkSepB
namespace Go.Proofs.YtpdibidfjhjoeaaDoor.Ik
open Go.RowKit Go.Proofs.YtpdibidfjhjoeaaDoorW.PrintWords Go.Proofs.YtpdibidfjhjoeaaDoorW.PrintMore Go.Proofs.YtpdibidfjhjoeaaDoor.Cmp Go.Proofs.YtpdibidfjhjoeaaDoor.Run Go.Proofs.YtpdibidfjhjoeaaDoor.Con Go.Proofs.YtpdibidfjhjoeaaDoor.Le Go.Proofs.YtpdibidfjhjoeaaDoor.Sep Go.Proofs.YtpdibidfjhjoeaaDoor.SepPlain
set_option linter.unusedVariables false

theorem succI_byt : ∀ (l s : List Int), Byt l → succI l = some s → Byt s
  | [], s, _, h => by simp [succI] at h
  | x :: l, s, hb, h => by
    have hx := hb x (by simp)
    have hl : Byt l := fun y hy => hb y (by simp [hy])
    simp only [succI] at h
    split at h
    · cases e : succI l with
      | none => rw [e] at h; simp at h
      | some t =>
        rw [e] at h
        simp at h
        subst h
        have ht := succI_byt l t hl e
        intro y hy
        rcases List.mem_cons.1 hy with rfl | hy
        · omega
        · exact ht y hy
    · simp at h
      subst h
      intro y hy
      simp at hy
      subst hy
      omega

theorem sepI_byt : ∀ (l m s : List Int), Byt l → Byt m → sepI l m = some s → Byt s
  | [], m, s, _, _, h => by simp [sepI] at h
  | x :: l, [], s, _, _, h => by simp [sepI] at h
  | x :: l, y :: m, s, hb, hm, h => by
    have hx := hb x (by simp)
    have hy := hm y (by simp)
    have hl : Byt l := fun z hz => hb z (by simp [hz])
    have hm' : Byt m := fun z hz => hm z (by simp [hz])
    simp only [sepI] at h
    split at h
    · cases e : sepI l m with
      | none => rw [e] at h; simp at h
      | some t =>
        rw [e] at h
        simp at h
        subst h
        have ht := sepI_byt l m t hl hm' e
        intro z hz
        rcases List.mem_cons.1 hz with rfl | hz
        · omega
        · exact ht z hz
    · split at h
      · simp at h
        subst h
        intro z hz
        simp at hz
        subst hz
        omega
      · simp at h


theorem maxNum_byt : Byt maxNum := by
  intro x hx
  simp only [maxNum, List.mem_cons, List.not_mem_nil, or_false] at hx
  rcases hx with h | h | h | h | h | h | h | h <;> omega

theorem icmp_key {x y : List Int} (h : cmpI (x.take (x.length - 8)) (y.take (y.length - 8)) ≠ 0) : icmp x y = cmpI (x.take (x.length - 8)) (y.take (y.length - 8)) := by
  unfold icmp
  rw [if_neg h]

theorem max_key (s : List Int) : (s ++ maxNum).take ((s ++ maxNum).length - 8) = s := by
  have e : (s ++ maxNum).length - 8 = s.length := by simp [maxNum]
  rw [e]
  exact List.take_left' rfl

theorem after (s x : List Int) (h : cmpI (x.take (x.length - 8)) s < 0) : 0 ≤ icmp (s ++ maxNum) x := by
  have hs := cmpI_swap (x.take (x.length - 8)) s
  have e : cmpI ((s ++ maxNum).take ((s ++ maxNum).length - 8)) (x.take (x.length - 8)) = - cmpI (x.take (x.length - 8)) s := by rw [max_key]; exact hs
  rw [icmp_key (by rw [e]; omega), e]
  omega

theorem ahead (s y : List Int) (h : cmpI s (y.take (y.length - 8)) < 0) : icmp (s ++ maxNum) y < 0 := by
  have e : cmpI ((s ++ maxNum).take ((s ++ maxNum).length - 8)) (y.take (y.length - 8)) = cmpI s (y.take (y.length - 8)) := by rw [max_key]
  rw [icmp_key (by rw [e]; omega), e]
  exact h

theorem some_less {w w1 : World} {l : List Int} {e : Ending} {w' : World} (hb : Below w.heap.size w w1) (h : SomeRow w1.heap.size w1 l e w') : SomeRow w.heap.size w l e w' := by
  obtain ⟨v, he, ho, hb2⟩ := h
  exact ⟨v, he, own_less ho hb.size, below_then hb hb.size hb2⟩

/-- nothing is told, or a row of a kind -/
def NilOr (P : List Int → Prop) (w : World) (e : Ending) (w' : World) : Prop :=
  (e = .returned (.slice none 0 0) ∧ Below w.heap.size w w') ∨ ∃ s, P s ∧ 0 < s.length ∧ SomeRow w.heap.size w s e w'

set_option maxHeartbeats 400000 in
set_option maxRecDepth 100000 in
theorem DoorSuccessor_calls {w : World} {B : Option Addr} {cb m : Nat} {lb : List Int}
    (hb : Kd.C (Kd.int .u8) w B (m + 8) lb) (hcb : m + 8 ≤ cb) (bb : Byt lb) (hm : m ≤ 4294967296) :
    Calls Tryd.prog 36 #[.slice B (m + 8) cb] w (NilOr (fun s => 0 ≤ icmp s lb ∧ Byt s ∧ s.length ≤ m + 8 ∧ 8 ≤ s.length) w) := by
  have el := Kd.C_len hb
  have em : lb.length - 8 = m := by omega
  have hA := fun (w1 : World) (p : Addr) (hp : w1.cell? p = some dflt) (h1 : Below w.heap.size w w1) => (show Calls Tryd.prog 42 #[.pointer (some p), .slice none 0 0, .slice B (m + 8) cb] w1 (NilOr (fun s => 0 ≤ icmp s lb ∧ Byt s ∧ s.length ≤ m + 8 ∧ 8 ≤ s.length) w) from by
    have hb1 := Kd.C_below hb h1
    cases hs : succI (lb.take m) with
    | none => exact (iSucc_none hp hb1 hcb bb hs).mono fun e w' h => Or.inl ⟨h.1, below_then h1 h1.size h.2⟩
    | some s =>
      have bs := succI_byt _ _ (byt_take bb m) hs
      by_cases hl : s.length < m
      · refine (iSucc_some hp hb1 hcb bb hs hm hl bs).mono fun e w' h => Or.inr ⟨s ++ maxNum, ⟨after s lb ?_, ?_, ?_, ?_⟩, ?_, some_less h1 h⟩
        · rw [em]; exact succI_behind _ _ hs
        · intro x hx
          rcases List.mem_append.1 hx with h | h
          · exact bs x h
          · exact maxNum_byt x h
        · simp [maxNum]; omega
        · simp [maxNum]
        · simp [maxNum]
      · exact (iSucc_long hp hb1 hcb bb hs hm hl).mono fun e w' h => Or.inl ⟨h.1, below_then h1 h1.size h.2⟩)
  clear hb bb el em
  go_enter Tryd.func36, Tryd.ntmps36
  go_wp2_with fail
  refine (doorOrder_calls w).mono ?_
  rintro e w1 ⟨p, rfl, hp, hb1⟩
  go_wp2_with fail
  refine (hA w1 p hp hb1).mono ?_
  rintro e w2 (⟨rfl, hb2⟩ | ⟨s, hs, h0, v, rfl, ho, hb2⟩)
  · go_wp2
    go_ret
    exact Or.inl ⟨rfl, hb2⟩
  · go_wp2
    go_ret
    exact Or.inr ⟨s, hs, h0, v, rfl, ho, hb2⟩

set_option maxHeartbeats 400000 in
set_option maxRecDepth 100000 in
theorem DoorSeparator_calls {w : World} {A : Option Addr} {ca m : Nat} {la : List Int} {B : Option Addr} {cb q : Nat} {lb : List Int}
    (ha : Kd.C (Kd.int .u8) w A (m + 8) la) (hca : m + 8 ≤ ca) (ba : Byt la) (hb : Kd.C (Kd.int .u8) w B (q + 8) lb) (hcb : q + 8 ≤ cb) (bb : Byt lb) (hm : m ≤ 4294967296) :
    Calls Tryd.prog 37 #[.slice A (m + 8) ca, .slice B (q + 8) cb] w (NilOr (fun s => (0 ≤ icmp s la ∧ icmp s lb < 0) ∧ Byt s ∧ s.length ≤ m + 8 ∧ 8 ≤ s.length) w) := by
  have el := Kd.C_len ha
  have el2 := Kd.C_len hb
  have em : la.length - 8 = m := by omega
  have eq : lb.length - 8 = q := by omega
  have hA := fun (w1 : World) (p : Addr) (hp : w1.cell? p = some dflt) (h1 : Below w.heap.size w w1) => (show Calls Tryd.prog 43 #[.pointer (some p), .slice none 0 0, .slice A (m + 8) ca, .slice B (q + 8) cb] w1 (NilOr (fun s => (0 ≤ icmp s la ∧ icmp s lb < 0) ∧ Byt s ∧ s.length ≤ m + 8 ∧ 8 ≤ s.length) w) from by
    have ha1 := Kd.C_below ha h1
    have hb1 := Kd.C_below hb h1
    cases hs : sepI (la.take m) (lb.take q) with
    | none => exact (iSep_none hp ha1 hca ba hb1 hcb bb hs).mono fun e w' h => Or.inl ⟨h.1, below_then h1 h1.size h.2⟩
    | some s =>
      have bs := sepI_byt _ _ _ (byt_take ba m) (byt_take bb q) hs
      by_cases hl : s.length < m
      · refine (iSep_some hp ha1 hca ba hb1 hcb bb hs hm hl bs).mono fun e w' h => Or.inr ⟨s ++ maxNum, ⟨⟨after s la ?_, ahead s lb ?_⟩, ?_, ?_, ?_⟩, ?_, some_less h1 h⟩
        · rw [em]; exact (sepI_between _ _ _ hs).1
        · rw [eq]; exact (sepI_between _ _ _ hs).2
        · intro x hx
          rcases List.mem_append.1 hx with h | h
          · exact bs x h
          · exact maxNum_byt x h
        · simp [maxNum]; omega
        · simp [maxNum]
        · simp [maxNum]
      · exact (iSep_long hp ha1 hca ba hb1 hcb bb hs hm hl).mono fun e w' h => Or.inl ⟨h.1, below_then h1 h1.size h.2⟩)
  clear ha hb ba bb el el2 em eq
  go_enter Tryd.func37, Tryd.ntmps37
  go_wp2_with fail
  refine (doorOrder_calls w).mono ?_
  rintro e w1 ⟨p, rfl, hp, hb1⟩
  go_wp2_with fail
  refine (hA w1 p hp hb1).mono ?_
  rintro e w2 (⟨rfl, hb2⟩ | ⟨s, hs, h0, v, rfl, ho, hb2⟩)
  · go_wp2
    go_ret
    exact Or.inl ⟨rfl, hb2⟩
  · go_wp2
    go_ret
    exact Or.inr ⟨s, hs, h0, v, rfl, ho, hb2⟩

/-- a row, whether nothing was told, and true -/
def ThreeRow (P : List Int → Prop) (w : World) (e : Ending) (w' : World) : Prop :=
  ∃ A c s n, e = .returned (.tuple #[.slice A s.length c, .bool n, .bool true]) ∧ Kd.C (Kd.int .u8) w' A s.length s ∧ s.length ≤ c ∧ (n = true ∨ n = false ∧ P s) ∧ Below w.heap.size w w'

set_option maxHeartbeats 400000 in
set_option maxRecDepth 100000 in
theorem IkeySuccessor_calls {w : World} {B : Option Addr} {cb m : Nat} {lb : List Int}
    (hb : Kd.C (Kd.int .u8) w B (m + 8) lb) (hcb : m + 8 ≤ cb) (bb : Byt lb) (hm : m ≤ 4294967296) :
    Calls Tryd.prog 23 #[.slice B (m + 8) cb] w (ThreeRow (fun s => 0 ≤ icmp s lb ∧ Byt s ∧ s.length ≤ m + 8 ∧ 8 ≤ s.length) w) := by
  have hD := DoorSuccessor_calls hb hcb bb hm
  have hM := Kd.C_max hb
  clear hb bb
  have hg : ¬ ((m : Int) + 8 < 8) := by omega
  go_enter Tryd.func23, Tryd.ntmps23
  go_wp2_with fail
  refine hD.mono ?_
  rintro e w1 (⟨rfl, hb1⟩ | ⟨s, hs, h0, v, rfl, ho, hb1⟩)
  · have ho0 : Hid ((w1.alloc (.cells #[] 5)).ownsRow w.heap.size 5 1 (.slice (some ⟨w1.heap.size, 0, none⟩) 0 0) ([] : List Int).length (nums .u8 [])) := own_lit w1 w.heap.size 5 .u8 [] hb1.size (by decide)
    have hB1 := Lib.hid (below_alloc hb1 (.cells #[] 5))
    have hz := Lib.hid (below_size hB1.out)
    have hn := nil_eq
    go_wp2_with (at_builtin; go_loud (refine print_append_row w.heap.size rfl (.tmp 11) (.tmp 12) 22 5 .u8 1 rfl Tryd.underlying22 info_u8 (by decide) _ [] [] _ _ _ rfl rfl ho0.out (C_ints (Kd.C_nil _ _)) hB1.out hz.out (by simp) ?_); intro v3 w3 ho3' hb3 _ _; have HO3 := Lib.hid ho3'; have HB3 := Lib.hid hb3; clear ho3' hb3)
    obtain ⟨A3, c3, rfl, hr3, hc3⟩ := own_C HO3.out
    go_ret3
    exact ⟨A3, c3, [], true, rfl, hr3, hc3, Or.inl rfl, HB3.out⟩
  · obtain ⟨g2, c2, rfl, _⟩ := own_form ho h0
    obtain ⟨A2, c2', e2, hr2, hc2⟩ := own_C ho
    injection e2 with eA _ ec
    subst eA ec
    have HC2 := Lib.hid hr2
    have ho0 : Hid ((w1.alloc (.cells #[] 5)).ownsRow w.heap.size 5 1 (.slice (some ⟨w1.heap.size, 0, none⟩) 0 0) ([] : List Int).length (nums .u8 [])) := own_lit w1 w.heap.size 5 .u8 [] hb1.size (by decide)
    have hB1 := Lib.hid (below_alloc hb1 (.cells #[] 5))
    have hz := Lib.hid (below_size hB1.out)
    have hn := nil_eq
    have hl := hs.2.2.1
    have HS := Lib.hid hs
    clear hs ho hr2
    go_wp2_with (at_builtin; go_loud (refine print_append_row w.heap.size rfl (.tmp 11) (.tmp 12) 22 5 .u8 1 rfl Tryd.underlying22 info_u8 (by decide) _ [] s _ _ _ rfl rfl ho0.out (C_ints (Kd.C_alloc HC2.out _)) hB1.out hz.out (by simp; omega) ?_); intro v3 w3 ho3' hb3 _ _; have HO3 := Lib.hid ho3'; have HB3 := Lib.hid hb3; clear ho3' hb3)
    obtain ⟨A3, c3, rfl, hr3, hc3⟩ := own_C HO3.out
    rw [List.nil_append] at hr3 hc3 ⊢
    go_ret3
    exact ⟨A3, c3, s, false, rfl, hr3, hc3, Or.inr ⟨rfl, HS.out⟩, HB3.out⟩

set_option maxHeartbeats 400000 in
set_option maxRecDepth 100000 in
theorem IkeySeparator_calls {w : World} {A : Option Addr} {ca m : Nat} {la : List Int} {B : Option Addr} {cb q : Nat} {lb : List Int}
    (ha : Kd.C (Kd.int .u8) w A (m + 8) la) (hca : m + 8 ≤ ca) (ba : Byt la) (hb : Kd.C (Kd.int .u8) w B (q + 8) lb) (hcb : q + 8 ≤ cb) (bb : Byt lb) (hm : m ≤ 4294967296) :
    Calls Tryd.prog 24 #[.slice A (m + 8) ca, .slice B (q + 8) cb] w (ThreeRow (fun s => (0 ≤ icmp s la ∧ icmp s lb < 0) ∧ Byt s ∧ s.length ≤ m + 8 ∧ 8 ≤ s.length) w) := by
  have hD := DoorSeparator_calls ha hca ba hb hcb bb hm
  have hM := Kd.C_max ha
  have hM2 := Kd.C_max hb
  clear ha ba hb bb
  have hg : ¬ ((m : Int) + 8 < 8) := by omega
  have hg2 : ¬ ((q : Int) + 8 < 8) := by omega
  go_enter Tryd.func24, Tryd.ntmps24
  go_wp2_with fail
  refine hD.mono ?_
  rintro e w1 (⟨rfl, hb1⟩ | ⟨s, hs, h0, v, rfl, ho, hb1⟩)
  · have ho0 : Hid ((w1.alloc (.cells #[] 5)).ownsRow w.heap.size 5 1 (.slice (some ⟨w1.heap.size, 0, none⟩) 0 0) ([] : List Int).length (nums .u8 [])) := own_lit w1 w.heap.size 5 .u8 [] hb1.size (by decide)
    have hB1 := Lib.hid (below_alloc hb1 (.cells #[] 5))
    have hz := Lib.hid (below_size hB1.out)
    have hn := nil_eq
    go_wp2_with (at_builtin; go_loud (refine print_append_row w.heap.size rfl (.tmp 19) (.tmp 20) 22 5 .u8 1 rfl Tryd.underlying22 info_u8 (by decide) _ [] [] _ _ _ rfl rfl ho0.out (C_ints (Kd.C_nil _ _)) hB1.out hz.out (by simp) ?_); intro v3 w3 ho3' hb3 _ _; have HO3 := Lib.hid ho3'; have HB3 := Lib.hid hb3; clear ho3' hb3)
    obtain ⟨A3, c3, rfl, hr3, hc3⟩ := own_C HO3.out
    go_ret3
    exact ⟨A3, c3, [], true, rfl, hr3, hc3, Or.inl rfl, HB3.out⟩
  · obtain ⟨g2, c2, rfl, _⟩ := own_form ho h0
    obtain ⟨A2, c2', e2, hr2, hc2⟩ := own_C ho
    injection e2 with eA _ ec
    subst eA ec
    have HC2 := Lib.hid hr2
    have ho0 : Hid ((w1.alloc (.cells #[] 5)).ownsRow w.heap.size 5 1 (.slice (some ⟨w1.heap.size, 0, none⟩) 0 0) ([] : List Int).length (nums .u8 [])) := own_lit w1 w.heap.size 5 .u8 [] hb1.size (by decide)
    have hB1 := Lib.hid (below_alloc hb1 (.cells #[] 5))
    have hz := Lib.hid (below_size hB1.out)
    have hn := nil_eq
    have hl := hs.2.2.1
    have HS := Lib.hid hs
    clear hs ho hr2
    go_wp2_with (at_builtin; go_loud (refine print_append_row w.heap.size rfl (.tmp 19) (.tmp 20) 22 5 .u8 1 rfl Tryd.underlying22 info_u8 (by decide) _ [] s _ _ _ rfl rfl ho0.out (C_ints (Kd.C_alloc HC2.out _)) hB1.out hz.out (by simp; omega) ?_); intro v3 w3 ho3' hb3 _ _; have HO3 := Lib.hid ho3'; have HB3 := Lib.hid hb3; clear ho3' hb3)
    obtain ⟨A3, c3, rfl, hr3, hc3⟩ := own_C HO3.out
    rw [List.nil_append] at hr3 hc3 ⊢
    go_ret3
    exact ⟨A3, c3, s, false, rfl, hr3, hc3, Or.inr ⟨rfl, HS.out⟩, HB3.out⟩

end Go.Proofs.YtpdibidfjhjoeaaDoor.Ik
