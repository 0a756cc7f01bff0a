/- A memory table's iterator stands on the sorted list's places: no program in sight. The memory table's iterator is a cursor on the range's pairs. The memory table's iterator is a cursor: its methods. -/
import Derived.Test.YtdkkkikcigjlhaaGreatDoorMj25
set_option linter.unusedVariables false
set_option linter.unusedSimpArgs false
namespace Go.Proofs.YtdkkkikcigjlhaaGreatDoor.Md
open Go.RowKit Go.Proofs.YtdkkkikcigjlhaaGreatDoor.Con Go.Proofs.YtdkkkikcigjlhaaGreatDoor.Run Go.Proofs.YtdkkkikcigjlhaaGreatDoorW.PrintWords Go.Proofs.YtdkkkikcigjlhaaGreatDoorW.PrintMore Go.Proofs.YtdkkkikcigjlhaaGreatDoor.Cmp Go.Sort Go.RwLone

def inr (f : List Int → List Int → Int) (st lim : Option (List Int)) (x : Node) : Bool := over f st x.key && under f lim x.key
def rangeL (f : List Int → List Int → Int) (st lim : Option (List Int)) (ns : List Node) : List KV := (ns.filter (inr f st lim)).map fun x => (x.key, x.val)

def Pl (f : List Int → List Int → Int) (st lim : Option (List Int)) (ns : List Node) (i : Int) (fw : Bool) : Option Node → Prop
  | some x => ∃ A B, ns = A ++ x :: B ∧ inr f st lim x = true ∧ i = ((A.filter (inr f st lim)).length : Int)
  | none => (fw = true ∧ i = ((rangeL f st lim ns).length : Int)) ∨ (fw = false ∧ i = -1)

section
variable {f : List Int → List Int → Int} {st lim : Option (List Int)} {ns P R A B : List Node} {x : Node} {i : Int} {fw : Bool} {o : Option Node}

theorem range_app (A B : List Node) : rangeL f st lim (A ++ B) = rangeL f st lim A ++ rangeL f st lim B := by simp [rangeL]
theorem range_len (A : List Node) : (rangeL f st lim A).length = (A.filter (inr f st lim)).length := by simp [rangeL]
theorem range_in (h : inr f st lim x = true) : rangeL f st lim (A ++ x :: B) = rangeL f st lim A ++ (x.key, x.val) :: rangeL f st lim B := by simp [rangeL, h]
theorem range_none (h : ∀ x ∈ A, inr f st lim x = false) : rangeL f st lim A = [] := by
  unfold rangeL
  rw [List.filter_eq_nil_iff.2 (fun x hx => by rw [h x hx]; simp)]
  rfl

theorem Pl.on (h : Pl f st lim ns i fw o) : onL (rangeL f st lim ns) i = o.isSome ∧ keyL (rangeL f st lim ns) i = (match o with | some x => x.key | none => []) ∧ valL (rangeL f st lim ns) i = (match o with | some x => x.val | none => []) := by
  cases o with
  | none =>
    have e : onL (rangeL f st lim ns) i = false := by
      unfold onL
      rcases h with ⟨_, rfl⟩ | ⟨_, rfl⟩ <;> simp
    exact ⟨e, by unfold keyL; rw [e]; rfl, by unfold valL; rw [e]; rfl⟩
  | some x =>
    obtain ⟨A, B, rfl, hx, rfl⟩ := h
    have hl := range_in (f := f) (st := st) (lim := lim) (A := A) (B := B) hx
    have e : onL (rangeL f st lim (A ++ x :: B)) ((A.filter (inr f st lim)).length : Int) = true := by
      unfold onL
      rw [hl]
      simp [range_len]
      omega
    have g : (rangeL f st lim (A ++ x :: B)).getD (A.filter (inr f st lim)).length ([], []) = (x.key, x.val) := by
      rw [hl, ← range_len]
      simp [List.getD_eq_getElem?_getD]
    refine ⟨e, ?_, ?_⟩
    · unfold keyL
      rw [e, if_pos rfl, Int.toNat_natCast, g]
    · unfold valL
      rw [e, if_pos rfl, Int.toNat_natCast, g]

theorem under_up (ho : Ord f) {a b : List Int} (h : f a b < 0) (hb : under f lim b = true) : under f lim a = true := by
  cases lim with
  | none => rfl
  | some l =>
    have hb : f b l < 0 := by simpa [under] using hb
    simp [under]
    exact ho.trans _ _ _ h hb
theorem over_up (ho : Ord f) {a b : List Int} (h : f a b < 0) (ha : over f st a = true) : over f st b = true := by
  cases st with
  | none => rfl
  | some l =>
    have ha : 0 ≤ f a l := by
      simp [over] at ha
      exact ha
    refine over_yes ?_
    rcases Int.lt_or_le (f b l) 0 with q | q
    · have := ho.trans _ _ _ h q
      omega
    · exact q

theorem sorted_mem (hs : Sorted f (A ++ x :: B)) : (∀ y ∈ A, f y.key x.key < 0) ∧ ∀ y ∈ B, f x.key y.key < 0 := by
  obtain ⟨_, h2, h3⟩ := List.pairwise_append.1 hs
  exact ⟨fun y hy => h3 y hy x List.mem_cons_self, fun y hy => (List.pairwise_cons.1 h2).1 y hy⟩

theorem head_pl (ho : Ord f) (hs : Sorted f ns) (e : ns = P ++ R) (hR : ∀ x ∈ R, over f st x.key = true) (hi : i = ((P.filter (inr f st lim)).length : Int)) : Pl f st lim ns i true (R.head?.filter fun x => under f lim x.key) := by
  cases R with
  | nil =>
    refine .inl ⟨rfl, ?_⟩
    rw [hi, e, List.append_nil, range_len]
  | cons y R' =>
    show Pl f st lim ns i true ((some y).filter _)
    rw [Option.filter_some]
    by_cases hu : under f lim y.key = true
    · rw [if_pos hu]
      exact ⟨P, R', e, by unfold inr; rw [hR y List.mem_cons_self, hu]; rfl, hi⟩
    · rw [if_neg hu]
      refine .inl ⟨rfl, ?_⟩
      have hn : rangeL f st lim (y :: R') = [] := range_none fun z hz => by
        have : under f lim z.key = false := by
          rcases List.mem_cons.1 hz with rfl | hz
          · simpa using hu
          · rw [e] at hs
            cases q : under f lim z.key with
            | false => rfl
            | true => exact absurd (under_up ho ((sorted_mem hs).2 z hz) q) hu
        unfold inr
        rw [this, Bool.and_false]
      rw [hi, e, range_app, hn, List.append_nil, range_len]

theorem last_pl (ho : Ord f) (hs : Sorted f ns) (e : ns = P ++ R) (hP : ∀ x ∈ P, under f lim x.key = true) (hi : i = ((P.filter (inr f st lim)).length : Int) - 1) : Pl f st lim ns i false (P.getLast?.filter fun x => over f st x.key) := by
  rcases List.eq_nil_or_concat P with rfl | ⟨A, y, rfl⟩
  · exact .inr ⟨rfl, by rw [hi]; rfl⟩
  · have el : (A ++ [y]).getLast? = some y := by simp
    rw [List.concat_eq_append] at e hP hi ⊢
    rw [el, Option.filter_some]
    by_cases hu : over f st y.key = true
    · rw [if_pos hu]
      have hy : inr f st lim y = true := by unfold inr; rw [hu, hP y (by simp)]; rfl
      refine ⟨A, R, by rw [e]; simp, hy, ?_⟩
      rw [hi, List.filter_append]
      simp [hy]
    · rw [if_neg hu]
      refine .inr ⟨rfl, ?_⟩
      have hn : (A ++ [y]).filter (inr f st lim) = [] := List.filter_eq_nil_iff.2 fun z hz => by
        have : over f st z.key = false := by
          rcases List.mem_append.1 hz with hz | hz
          · cases q : over f st z.key with
            | false => rfl
            | true =>
              rw [e, List.append_assoc] at hs
              exact absurd (over_up ho ((sorted_mem (A := A) (x := y) (B := R) (by simpa using hs)).1 z hz) q) hu
          · rw [List.mem_singleton.1 hz]
            simpa using hu
        unfold inr
        rw [this]
        simp
      rw [hi, hn]
      rfl

theorem findL_app (key : List Int) : ∀ (A B : List KV), (∀ x ∈ A, f x.1 key < 0) → (∀ x ∈ B, 0 ≤ f x.1 key) → findL f key (A ++ B) = A.length := by
  intro A
  induction A with
  | nil =>
    intro B _ hB
    cases B with
    | nil => rfl
    | cons x r =>
      have := hB x List.mem_cons_self
      simp only [List.nil_append, findL, List.length_nil]
      rw [if_neg (by omega)]
  | cons x r ih =>
    intro B hA hB
    simp only [List.cons_append, findL, List.length_cons]
    rw [if_pos (hA x List.mem_cons_self), ih B (fun y hy => hA y (List.mem_cons_of_mem _ hy)) hB]

theorem seek_place (key : List Int) (e : ns = P ++ R) (hP : ∀ x ∈ P, inr f st lim x = true → f x.key key < 0) (hR : ∀ x ∈ R, 0 ≤ f x.key key) : findL f key (rangeL f st lim ns) = (P.filter (inr f st lim)).length := by
  rw [e, range_app, findL_app, range_len]
  · intro x hx
    obtain ⟨y, hy, rfl⟩ := List.mem_map.1 hx
    exact hP y (List.mem_filter.1 hy).1 (List.mem_filter.1 hy).2
  · intro x hx
    obtain ⟨y, hy, rfl⟩ := List.mem_map.1 hx
    exact hR y (List.mem_filter.1 hy).1
end

end Go.Proofs.YtdkkkikcigjlhaaGreatDoor.Md

namespace Go.Proofs.YtdkkkikcigjlhaaGreatDoor.Md
open Go.RowKit Go.Proofs.YtdkkkikcigjlhaaGreatDoor.Con Go.Proofs.YtdkkkikcigjlhaaGreatDoor.Run Go.Proofs.YtdkkkikcigjlhaaGreatDoorW.PrintWords Go.Proofs.YtdkkkikcigjlhaaGreatDoorW.PrintMore Go.Proofs.YtdkkkikcigjlhaaGreatDoor.Cmp Go.Sort Go.RwLone

theorem Rg2.mono {w : World} {ok ok' : Nat → Prop} {sv : Value} {st lim : Option (List Int)} (h : Rg2 w ok sv st lim) (hm : ∀ k, ok k → ok' k) : Rg2 w ok' sv st lim := by
  rcases h with h | ⟨s, Sb, Lb, h1, h2, h3, h4, h5, h6, h7, h8⟩
  · exact .inl h
  · exact .inr ⟨s, Sb, Lb, h1, hm _ h2, h3, h4, h5, h6, fun l a c e1 e2 => hm _ (h7 l a c e1 e2), fun l a c e1 e2 => hm _ (h8 l a c e1 e2)⟩

structure DbAt (base p : Nat) (V : Value) (f : List Int → List Int → Int) (ns : List Node) (kb nb it : Nat) (sv : Value) (st lim : Option (List Int)) (lo hi : Nat) (w : World) (i : Int) (D : MemD) (fw : Bool) (o : Option Node) : Prop where
  M : MIt w D base p V f ns kb nb it sv st lim fw o
  pl : Pl f st lim ns i fw o
  own : ∀ k, D.own p k → lo ≤ k ∧ k < hi
  at_ : lo ≤ it ∧ it < hi
  rg : Rg2 w (fun k => D.apart p it k ∧ (lo ≤ k ∧ k < hi)) sv st lim
  top : hi ≤ w.heap.size

def DbSt (base p : Nat) (V : Value) (f : List Int → List Int → Int) (ns : List Node) (kb nb it : Nat) (sv : Value) (st lim : Option (List Int)) (lo hi : Nat) (w : World) (i : Int) (F : Nat → Prop) : Prop :=
  F = (fun k => lo ≤ k ∧ k < hi) ∧ ∃ D fw o, DbAt base p V f ns kb nb it sv st lim lo hi w i D fw o

section
variable {base p kb nb it lo hi : Nat} {V sv : Value} {f : List Int → List Int → Int} {ns : List Node} {st lim : Option (List Int)} {w w1 : World} {i j : Int} {D : MemD} {fw fw' : Bool} {o o' : Option Node}

theorem DbAt.keep (h : DbAt base p V f ns kb nb it sv st lim lo hi w i D fw o) (hk : ∀ k, lo ≤ k ∧ k < hi → w1.heap[k]? = w.heap[k]?) (hs : w.heap.size ≤ w1.heap.size) : DbAt base p V f ns kb nb it sv st lim lo hi w1 i D fw o := by
  have hr := h.rg.keep (w1 := w1) (fun k ho _ => hk k ho.2)
  obtain ⟨ics, hb, hi'⟩ := h.M.blk
  exact ⟨⟨h.M.M.keep (fun k ho => hk k (h.own k ho)), ⟨ics, (hk it h.at_).trans hb, hi'⟩, h.M.on, hr.mono (fun k q => q.1), h.M.ne⟩, h.pl, h.own, h.at_, hr, Nat.le_trans h.top hs⟩

theorem DbAt.moved (h : DbAt base p V f ns kb nb it sv st lim lo hi w i D fw o) {cs : Array Value} (hm : MIt w1 { D with cs := cs } base p V f ns kb nb it sv st lim fw' o') (hf : Fr w w1 (fun k => k = it ∨ k = p)) (hp : Pl f st lim ns j fw' o') :
    Mv (DbSt base p V f ns kb nb it sv st lim lo hi) w (fun k => lo ≤ k ∧ k < hi) j w1 := by
  refine ⟨_, ⟨rfl, { D with cs := cs }, fw', o', hm, hp, h.own, h.at_, ?_, Nat.le_trans h.top hf.size⟩, hf.mono (fun k hk => ?_), fun k hk => .inl hk⟩
  · exact h.rg.keep (fun k hk hlt => hf.block k hlt (fun q => by
      rcases q with rfl | rfl
      · exact hk.1.1 rfl
      · exact hk.1.2 (.inr (.inl rfl))))
  · rcases hk with rfl | rfl
    · exact h.at_
    · exact h.own _ (.inr (.inl rfl))
end

set_option maxHeartbeats 1600000 in
theorem DbValid_calls {w : World} {it p : Nat} {ics : Array Value} {sv : Value} {fw : Bool} {kv : List Int} {Kx : Option Addr} {o : Option Node} (hb : Blk w it ics) (hi : ItAt kv Kx ics p sv fw o) (ha : ∀ x, o = some x → 16 ≤ x.a) :
    Calls Tryz.prog 172 #[.pointer (some ⟨it, 0, none⟩)] w fun e w' => e = .returned (.bool o.isSome) ∧ w = w' := by
  obtain ⟨A1, n1, c1, B1, m1, d1, hs⟩ := hi.is
  have e4 := hb.cell hs.c4
  clear hb hi hs
  cases o with
  | none =>
    go_enter Tryz.func172, Tryz.ntmps172
    go_wp2
    go_ret
    exact ⟨rfl, rfl⟩
  | some x =>
    have z := nz (ha x rfl)
    replace e4 : w.cell? ⟨it, 4, none⟩ = some (.int .i64 (x.a : Int)) := e4
    clear ha
    generalize x.a = a at *
    go_enter Tryz.func172, Tryz.ntmps172
    go_wp2
    go_ret
    exact ⟨rfl, rfl⟩

set_option maxHeartbeats 1600000 in
theorem DbError_calls {w : World} {it : Nat} (h : w.cell? ⟨it, 8, none⟩ = some .nilIface) :
    Calls Tryz.prog 163 #[.pointer (some ⟨it, 0, none⟩)] w fun e w' => e = .returned .nilIface ∧ w = w' := by
  go_enter Tryz.func163, Tryz.ntmps163
  go_wp2
  go_ret
  exact ⟨rfl, rfl⟩

set_option maxHeartbeats 1600000 in
theorem DbKey_calls {w : World} {it n c : Nat} {A : Option Addr} (h : w.cell? ⟨it, 6, none⟩ = some (.slice A n c)) :
    Calls Tryz.prog 165 #[.pointer (some ⟨it, 0, none⟩)] w fun e w' => e = .returned (.slice A n c) ∧ w = w' := by
  go_enter Tryz.func165, Tryz.ntmps165
  go_wp2
  go_ret
  exact ⟨rfl, rfl⟩

set_option maxHeartbeats 1600000 in
theorem DbValue_calls {w : World} {it n c : Nat} {A : Option Addr} (h : w.cell? ⟨it, 7, none⟩ = some (.slice A n c)) :
    Calls Tryz.prog 173 #[.pointer (some ⟨it, 0, none⟩)] w fun e w' => e = .returned (.slice A n c) ∧ w = w' := by
  go_enter Tryz.func173, Tryz.ntmps173
  go_wp2
  go_ret
  exact ⟨rfl, rfl⟩

end Go.Proofs.YtdkkkikcigjlhaaGreatDoor.Md

namespace Go.Proofs.YtdkkkikcigjlhaaGreatDoor.Md
open Go.RowKit Go.Proofs.YtdkkkikcigjlhaaGreatDoor.Con Go.Proofs.YtdkkkikcigjlhaaGreatDoor.Run Go.Proofs.YtdkkkikcigjlhaaGreatDoorW.PrintWords Go.Proofs.YtdkkkikcigjlhaaGreatDoorW.PrintMore Go.Proofs.YtdkkkikcigjlhaaGreatDoor.Cmp Go.Sort Go.RwLone

section
variable {base p kb nb it lo hi : Nat} {V sv : Value} {f : List Int → List Int → Int} {ns : List Node} {st lim : Option (List Int)} {w : World} {i : Int} {D : MemD} {fw : Bool} {o : Option Node}

theorem DbAt.tell {K : Nat} {args : Array Value} {fw' : Bool} {o' : Option Node} {j : Int} (h : DbAt base p V f ns kb nb it sv st lim lo hi w i D fw o) (hp : Pl f st lim ns j fw' o') (hc : Calls Tryz.prog K args w fun e w' => Moved w D base p V f ns kb nb it sv st lim fw' o' e w') :
    Calls Tryz.prog K args w fun e w' => ∃ b, e = .returned (.bool b) ∧ Hid (b = onL (rangeL f st lim ns) j) ∧ Hid (Mv (DbSt base p V f ns kb nb it sv st lim lo hi) w (fun k => lo ≤ k ∧ k < hi) j w') :=
  hc.mono (by
    rintro e w' ⟨rfl, cs, hm, hf⟩
    exact ⟨_, rfl, Lib.hid hp.on.1.symm, Lib.hid (h.moved hm hf hp)⟩)

theorem DbAt.ord (h : DbAt base p V f ns kb nb it sv st lim lo hi w i D fw o) : Ord f := h.M.M.cm.ord
theorem DbAt.srt (h : DbAt base p V f ns kb nb it sv st lim lo hi w i D fw o) : Sorted f ns := h.M.M.sorted

theorem Db_first (h : DbAt base p V f ns kb nb it sv st lim lo hi w i D fw o) (hkb : kb ≤ 1099511627776) (hnb : nb ≤ 1099511627776) : ∃ o', Pl f st lim ns 0 true o' ∧ Calls Tryz.prog 164 #[.pointer (some ⟨it, 0, none⟩)] w fun e w' => Moved w D base p V f ns kb nb it sv st lim true o' e w' := by
  cases st with
  | none => exact ⟨_, head_pl (P := []) h.ord h.srt rfl (fun _ _ => rfl) rfl, First_all h.M hkb hnb⟩
  | some l =>
    obtain ⟨P, R, e, h1, h2, _⟩ := h.M.M.split l
    have hP : P.filter (inr f (some l) lim) = [] := List.filter_eq_nil_iff.2 fun x hx => by unfold inr; rw [over_no (h1 x hx)]; simp
    exact ⟨_, head_pl h.ord h.srt e (fun x hx => over_yes (h2 x hx)) (by rw [hP]; rfl), First_from h.M hkb hnb e h1 h2⟩

theorem Db_last (h : DbAt base p V f ns kb nb it sv st lim lo hi w i D fw o) (hkb : kb ≤ 1099511627776) (hnb : nb ≤ 1099511627776) : ∃ o', Pl f st lim ns (((rangeL f st lim ns).length : Int) - 1) false o' ∧ Calls Tryz.prog 166 #[.pointer (some ⟨it, 0, none⟩)] w fun e w' => Moved w D base p V f ns kb nb it sv st lim false o' e w' := by
  cases lim with
  | none => exact ⟨_, last_pl (R := []) h.ord h.srt (by simp) (fun _ _ => rfl) (by rw [range_len]), Last_all h.M hkb hnb⟩
  | some l =>
    obtain ⟨P, R, e, h1, h2, _⟩ := h.M.M.split l
    have hR : R.filter (inr f st (some l)) = [] := List.filter_eq_nil_iff.2 fun x hx => by
      have := h2 x hx
      have hu : under f (some l) x.key = false := by simp [under]; omega
      unfold inr
      rw [hu]
      simp
    exact ⟨_, last_pl h.ord h.srt e (fun x hx => by simpa [under] using h1 x hx) (by rw [range_len, e, List.filter_append, hR, List.append_nil]), Last_to h.M hkb hnb e h1 h2⟩

theorem Db_next (h : DbAt base p V f ns kb nb it sv st lim lo hi w i D fw o) (hkb : kb ≤ 1099511627776) (hnb : nb ≤ 1099511627776) : ∃ fw' o', Pl f st lim ns (mvL f (rangeL f st lim ns) i 2 []) fw' o' ∧ Calls Tryz.prog 167 #[.pointer (some ⟨it, 0, none⟩)] w fun e w' => Moved w D base p V f ns kb nb it sv st lim fw' o' e w' := by
  have hmv : mvL f (rangeL f st lim ns) i 2 [] = if i + 1 ≤ ((rangeL f st lim ns).length : Int) then i + 1 else ((rangeL f st lim ns).length : Int) := rfl
  cases o with
  | none =>
    rcases h.pl with ⟨rfl, hi'⟩ | ⟨rfl, rfl⟩
    · refine ⟨true, none, ?_, Next_end h.M⟩
      rw [hmv, if_neg (by omega)]
      exact .inl ⟨rfl, rfl⟩
    · obtain ⟨o', h1, h2⟩ := Db_first h hkb hnb
      refine ⟨true, o', ?_, Next_begin h.M h2⟩
      rw [hmv, if_pos (by omega)]
      exact h1
  | some x =>
    obtain ⟨A, B, e, hx, hi'⟩ := h.pl
    have hxo : over f st x.key = true := by
      unfold inr at hx
      exact (Bool.and_eq_true _ _ ▸ hx).1
    have hs := h.srt
    rw [e] at hs
    refine ⟨true, _, ?_, Next_on h.M hkb hnb e⟩
    refine head_pl (P := A ++ [x]) h.ord h.srt (by rw [e]; simp) (fun y hy => over_up h.ord ((sorted_mem hs).2 y hy) hxo) ?_
    have hl : (rangeL f st lim ns).length = (A.filter (inr f st lim)).length + ((B.filter (inr f st lim)).length + 1) := by
      rw [e, range_in hx]
      simp [range_len]
    rw [hmv, if_pos (by rw [hi', hl]; omega), hi', List.filter_append]
    simp [hx]

theorem Db_prev (h : DbAt base p V f ns kb nb it sv st lim lo hi w i D fw o) (hkb : kb ≤ 1099511627776) (hnb : nb ≤ 1099511627776) : ∃ fw' o', Pl f st lim ns (mvL f (rangeL f st lim ns) i 3 []) fw' o' ∧ Calls Tryz.prog 168 #[.pointer (some ⟨it, 0, none⟩)] w fun e w' => Moved w D base p V f ns kb nb it sv st lim fw' o' e w' := by
  have hmv : mvL f (rangeL f st lim ns) i 3 [] = if -1 ≤ i - 1 then i - 1 else -1 := rfl
  cases o with
  | none =>
    rcases h.pl with ⟨rfl, hi'⟩ | ⟨rfl, rfl⟩
    · obtain ⟨o', h1, h2⟩ := Db_last h hkb hnb
      refine ⟨false, o', ?_, Prev_end h.M h2⟩
      rw [hmv, if_pos (by omega), hi']
      exact h1
    · refine ⟨false, none, ?_, Prev_begin h.M⟩
      rw [hmv, if_neg (by omega)]
      exact .inr ⟨rfl, rfl⟩
  | some x =>
    obtain ⟨A, B, e, hx, hi'⟩ := h.pl
    have hxu : under f lim x.key = true := by
      unfold inr at hx
      exact (Bool.and_eq_true _ _ ▸ hx).2
    have hs := h.srt
    rw [e] at hs
    refine ⟨false, _, ?_, Prev_on h.M hkb hnb e⟩
    refine last_pl (P := A) h.ord h.srt e (fun y hy => under_up h.ord ((sorted_mem hs).1 y hy) hxu) ?_
    rw [hmv, if_pos (by omega), hi']

theorem Db_seek {A0 : Option Addr} {ca : Nat} {key : List Int} (h : DbAt base p V f ns kb nb it sv st lim lo hi w i D fw o) (hkb : kb ≤ 1099511627776) (hnb : nb ≤ 1099511627776) (hA : Kd.C (Kd.int .u8) w A0 key.length key) (hk : Byt key) (hne : 0 < key.length → ∀ a, A0 = some a → ¬ (lo ≤ a.block ∧ a.block < hi)) :
    ∃ o', Pl f st lim ns (findL f key (rangeL f st lim ns) : Int) true o' ∧ Calls Tryz.prog 170 #[.pointer (some ⟨it, 0, none⟩), .slice A0 key.length ca] w fun e w' => Moved w D base p V f ns kb nb it sv st lim true o' e w' := by
  have hne' : 0 < key.length → ∀ a, A0 = some a → ¬ (a.block = it ∨ a.block = p) := fun hp a ha q => hne hp a ha (by
    rcases q with q | q
    · rw [q]; exact h.at_
    · rw [q]; exact h.own p (.inr (.inl rfl)))
  have go : ∀ l P R, ns = P ++ R → (∀ x ∈ P, f x.key l < 0) → (∀ x ∈ R, 0 ≤ f x.key l) → (∀ x ∈ R, over f st x.key = true) → (∀ x ∈ P, inr f st lim x = true → f x.key key < 0) → (∀ x ∈ R, 0 ≤ f x.key key) →
      Pl f st lim ns (findL f key (rangeL f st lim ns) : Int) true (R.head?.filter fun x => under f lim x.key) := by
    intro l P R e _ _ h3 h4 h5
    exact head_pl h.ord h.srt e h3 (by rw [seek_place key e h4 h5])
  cases st with
  | none =>
    obtain ⟨P, R, e, h1, h2, _⟩ := h.M.M.split key
    exact ⟨_, go key P R e h1 h2 (fun _ _ => rfl) (fun x hx _ => h1 x hx) h2, Seek_a h.M hkb hnb e h1 h2 hA hk hne'⟩
  | some l =>
    by_cases hlt : f key l < 0
    · obtain ⟨P, R, e, h1, h2, _⟩ := h.M.M.split l
      refine ⟨_, go l P R e h1 h2 (fun x hx => over_yes (h2 x hx)) (fun x hx hin => ?_) (fun x hx => ?_), Seek_b h.M hkb hnb e h1 h2 hA hk hne' hlt⟩
      · unfold inr at hin
        rw [over_no (h1 x hx)] at hin
        cases hin
      · have := h.ord.lt_of hlt (h2 x hx)
        rw [h.ord.swap]
        omega
    · obtain ⟨P, R, e, h1, h2, _⟩ := h.M.M.split key
      refine ⟨_, go key P R e h1 h2 (fun x hx => over_yes ?_) (fun x hx _ => h1 x hx) h2, Seek_c h.M hkb hnb e h1 h2 hA hk hne' hlt⟩
      rcases Int.lt_or_le (f x.key l) 0 with q | q
      · have h3 : f x.key key < 0 := h.ord.lt_of q (by omega)
        have := h2 x hx
        omega
      · exact q

set_option maxRecDepth 100000 in
theorem db_iter (hkb : kb ≤ 1099511627776) (hnb : nb ≤ 1099511627776) :
    Iter f 147 (.pointer (some ⟨it, 0, none⟩)) 164 166 167 168 170 172 163 165 173
      (rangeL f st lim ns) (DbSt base p V f ns kb nb it sv st lim lo hi) where
  n := by
    intro m hm w
    simp only [List.mem_cons, List.not_mem_nil, or_false] at hm
    rcases hm with rfl | rfl | rfl | rfl | rfl | rfl | rfl | rfl | rfl <;> kernel_rfl
  mF := fun w => by kernel_rfl
  mL := fun w => by kernel_rfl
  mN := fun w => by kernel_rfl
  mP := fun w => by kernel_rfl
  mS := fun w => by kernel_rfl
  mV := fun w => by kernel_rfl
  mE := fun w => by kernel_rfl
  mK := fun w => by kernel_rfl
  mU := fun w => by kernel_rfl
  c := by
    intro k hk args w
    simp only [List.mem_cons, List.not_mem_nil, or_false] at hk
    rcases hk with rfl | rfl | rfl | rfl | rfl | rfl | rfl | rfl | rfl
    · exact Go.MuLone.run_callFunc_enter Tryz.func164 (by kernel_rfl) rfl args w
    · exact Go.MuLone.run_callFunc_enter Tryz.func166 (by kernel_rfl) rfl args w
    · exact Go.MuLone.run_callFunc_enter Tryz.func167 (by kernel_rfl) rfl args w
    · exact Go.MuLone.run_callFunc_enter Tryz.func168 (by kernel_rfl) rfl args w
    · exact Go.MuLone.run_callFunc_enter Tryz.func170 (by kernel_rfl) rfl args w
    · exact Go.MuLone.run_callFunc_enter Tryz.func172 (by kernel_rfl) rfl args w
    · exact Go.MuLone.run_callFunc_enter Tryz.func163 (by kernel_rfl) rfl args w
    · exact Go.MuLone.run_callFunc_enter Tryz.func165 (by kernel_rfl) rfl args w
    · exact Go.MuLone.run_callFunc_enter Tryz.func173 (by kernel_rfl) rfl args w
  inside := by
    rintro w i F ⟨rfl, D, fw, o, h⟩ k hk
    exact Nat.lt_of_lt_of_le hk.2 h.top
  keep := by
    rintro w w1 i F ⟨rfl, D, fw, o, h⟩ hk hs
    exact ⟨rfl, D, fw, o, h.keep hk hs⟩
  first := by
    rintro w i F ⟨rfl, D, fw, o, h⟩
    obtain ⟨o', h1, h2⟩ := Db_first h hkb hnb
    exact h.tell h1 h2
  last := by
    rintro w i F ⟨rfl, D, fw, o, h⟩
    obtain ⟨o', h1, h2⟩ := Db_last h hkb hnb
    exact h.tell h1 h2
  next := by
    rintro w i F ⟨rfl, D, fw, o, h⟩
    obtain ⟨fw', o', h1, h2⟩ := Db_next h hkb hnb
    exact h.tell h1 h2
  prev := by
    rintro w i F ⟨rfl, D, fw, o, h⟩
    obtain ⟨fw', o', h1, h2⟩ := Db_prev h hkb hnb
    exact h.tell h1 h2
  seek := by
    rintro w i F ⟨rfl, D, fw, o, h⟩ A c key hA hk hne
    obtain ⟨o', h1, h2⟩ := Db_seek (ca := c) h hkb hnb hA hk hne
    exact h.tell h1 h2
  valid := by
    rintro w i F ⟨rfl, D, fw, o, h⟩
    obtain ⟨ics, hb, hi'⟩ := h.M.blk
    refine (DbValid_calls hb hi' (fun x hx => (h.M.M.S.ok x (h.M.on x hx)).a)).mono ?_
    rintro e w' ⟨rfl, rfl⟩
    exact ⟨_, rfl, Lib.hid h.pl.on.1.symm, Lib.hid ⟨_, ⟨rfl, D, fw, o, h⟩, Fr.refl _ _, fun k hk => .inl hk⟩⟩
  error := by
    rintro w i F ⟨rfl, D, fw, o, h⟩
    obtain ⟨ics, hb, hi'⟩ := h.M.blk
    obtain ⟨A1, n1, c1, B1, m1, d1, hs⟩ := hi'.is
    refine (DbError_calls (hb.cell hs.c8)).mono ?_
    rintro e w' ⟨rfl, rfl⟩
    exact ⟨rfl, Lib.hid ⟨_, ⟨rfl, D, fw, o, h⟩, Fr.refl _ _, fun k hk => .inl hk⟩⟩
  key := by
    rintro w i F ⟨rfl, D, fw, o, h⟩
    obtain ⟨ics, hb, hi'⟩ := h.M.blk
    have hm : Mv (DbSt base p V f ns kb nb it sv st lim lo hi) w (fun k => lo ≤ k ∧ k < hi) i w := ⟨_, ⟨rfl, D, fw, o, h⟩, Fr.refl _ _, fun k hk => .inl hk⟩
    cases o with
    | none =>
      have hs : Is ics p sv 0 fw nilS nilS := hi'
      refine (DbKey_calls (hb.cell hs.c6)).mono ?_
      rintro e w' ⟨rfl, rfl⟩
      rw [h.pl.on.2.1]
      exact ⟨none, 0, rfl, Lib.hid (Kd.C_nil _ _), Lib.hid hm⟩
    | some x =>
      obtain ⟨A, c, B, d, hs, _, _, hc, _⟩ := hi'
      refine (DbKey_calls (hb.cell hs.c6)).mono ?_
      rintro e w' ⟨rfl, rfl⟩
      rw [h.pl.on.2.1]
      exact ⟨A, c, rfl, Lib.hid (hc w (ints_C (own_reads' h.M.M.T.kv))), Lib.hid hm⟩
  value := by
    rintro w i F ⟨rfl, D, fw, o, h⟩
    obtain ⟨ics, hb, hi'⟩ := h.M.blk
    have hm : Mv (DbSt base p V f ns kb nb it sv st lim lo hi) w (fun k => lo ≤ k ∧ k < hi) i w := ⟨_, ⟨rfl, D, fw, o, h⟩, Fr.refl _ _, fun k hk => .inl hk⟩
    cases o with
    | none =>
      have hs : Is ics p sv 0 fw nilS nilS := hi'
      refine (DbValue_calls (hb.cell hs.c7)).mono ?_
      rintro e w' ⟨rfl, rfl⟩
      rw [h.pl.on.2.2]
      exact ⟨none, 0, rfl, Lib.hid (Kd.C_nil _ _), Lib.hid hm⟩
    | some x =>
      obtain ⟨A, c, B, d, hs, _, _, _, hc⟩ := hi'
      refine (DbValue_calls (hb.cell hs.c7)).mono ?_
      rintro e w' ⟨rfl, rfl⟩
      rw [h.pl.on.2.2]
      exact ⟨B, d, rfl, Lib.hid (hc w (ints_C (own_reads' h.M.M.T.kv))), Lib.hid hm⟩
end

end Go.Proofs.YtdkkkikcigjlhaaGreatDoor.Md
