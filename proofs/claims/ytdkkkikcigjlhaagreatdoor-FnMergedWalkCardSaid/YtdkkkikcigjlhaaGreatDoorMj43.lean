/- An iterator that merges iterators: Prev, whole. An iterator that merges iterators, as a cursor on all pairs. impl's MergedWalk: the iterators that are merged, and the new iterator. impl's MergedWalk. Lists without a key in common, put one behind the other: pure. -/
import Derived.Test.YtdkkkikcigjlhaaGreatDoorMj41
import Derived.Test.YtdkkkikcigjlhaaGreatDoorMj42
import Derived.Test.YtdkkkikcigjlhaaGreatDoorMj33
import Derived.Test.YtdkkkikcigjlhaaGreatDoorMj34
import Derived.Test.YtdkkkikcigjlhaaGreatDoorMj35
import Derived.Test.YtdkkkikcigjlhaaGreatDoorMj30
set_option linter.unusedVariables false
set_option linter.unusedSimpArgs false
namespace Go.Proofs.YtdkkkikcigjlhaaGreatDoor.Md
open Go.RowKit Go.Proofs.YtdkkkikcigjlhaaGreatDoor.Con Go.Proofs.YtdkkkikcigjlhaaGreatDoor.Run Go.Proofs.YtdkkkikcigjlhaaGreatDoorW.PrintWords Go.Proofs.YtdkkkikcigjlhaaGreatDoorW.PrintMore Go.Proofs.YtdkkkikcigjlhaaGreatDoor.Cmp Go.Sort Go.RwLone Go.Proofs.YtdkkkikcigjlhaaGreatDoor.PFnMemMap

section
variable {V : Value} {f : List Int → List Int → Int} {LL : List (List S44)} {L : List KV} {k : Nat} {Ai : Option Addr} {kc m kb : Nat} {R : Nat → Prop} {it : Nat → Nat} {w w1 : World} {pf : Nat → Int} {ka : Array Value} {i d t : Int} {c x : Nat}

set_option maxHeartbeats 3200000 in
theorem mgPrev_soi (h : MgS V LL k Ai kc m kb R it w pf ka i 0) :
    Calls Tryz.prog 214 #[.pointer (some ⟨m, 0, none⟩)] w fun e w' => e = .returned (.bool false) ∧ w = w' := by
  have r5 : w.cell? ⟨m, 5, none⟩ = some (.int .i64 0) := (blk_cell h.bm 5).trans rfl
  clear h
  go_enter Tryz.func214, Tryz.ntmps214
  go_wp2
  go_ret
  exact ⟨rfl, rfl⟩

set_option maxHeartbeats 3200000 in
theorem mgPrev_eoi (hV : Cmpr V f) (hM : Mg f LL L) (hn : LL.length = k) (hl : k ≤ 4294967296) (hb : ∀ l ∈ LL, l.length ≤ 4294967296 ∧ ∀ x ∈ l, Byt x.f0) (h : MgS V LL k Ai kc m kb R it w pf ka i 1) :
    Calls Tryz.prog 214 #[.pointer (some ⟨m, 0, none⟩)] w fun e w' => MgMv f V LL L k Ai kc m kb R it ((L.length : Int) - 1) w e w' := by
  have r5 : w.cell? ⟨m, 5, none⟩ = some (.int .i64 1) := (blk_cell h.bm 5).trans rfl
  have r6 : w.cell? ⟨m, 6, none⟩ = some .nilIface := (blk_cell h.bm 6).trans rfl
  have HF := Lib.hid (mgLast_mv hV hM hn hl hb (show MgPl f V LL L k Ai kc m kb R it w (L.length : Int) from ⟨pf, ka, i, 1, h, .inr (.inr (.inr ⟨rfl, rfl⟩))⟩))
  clear h hV hM hn hb
  go_enter Tryz.func214, Tryz.ntmps214
  go_wp2_with ((with_reducible refine HF.out.mono ?_); rintro e w1 ⟨bb, rfl, h1, h2, h3⟩)
  go_ret
  exact ⟨bb, rfl, h1, h2, h3⟩

theorem mgPrev_calls (hV : Cmpr V f) (hM : Mg f LL L) (hn : LL.length = k) (hl : k ≤ 4294967296) (hb : ∀ l ∈ LL, l.length ≤ 4294967296 ∧ ∀ x ∈ l, Byt x.f0) (hq : ∀ a ∈ L, a.1.length ≤ 4294967296) (h : MgPl f V LL L k Ai kc m kb R it w t) :
    Calls Tryz.prog 214 #[.pointer (some ⟨m, 0, none⟩)] w fun e w' => MgMv f V LL L k Ai kc m kb R it (mvL f L t 3 []) w e w' := by
  have e2 : mvL f L t 3 [] = if -1 ≤ t - 1 then t - 1 else -1 := by
    unfold mvL
    rw [if_neg (by decide), if_neg (by decide), if_neg (by decide), if_pos rfl]
  rw [e2]
  clear e2
  obtain ⟨pf, ka, i, d, hS, ⟨c, hc, rfl, rfl, hF⟩ | ⟨c, hc, rfl, rfl, hF⟩ | ⟨rfl, rfl⟩ | ⟨rfl, rfl⟩⟩ := h
  · rw [if_pos (by omega)]
    exact mgPrev_fw hV hM hn hl hb hq hS hc hF
  · rw [if_pos (by omega)]
    exact mgPrev_bw hV hM hn hl hb hS hc hF
  · rw [if_neg (by omega)]
    refine (mgPrev_soi hS).mono ?_
    rintro e w' ⟨rfl, rfl⟩
    exact ⟨false, rfl, Lib.hid (on_begin L).symm, Lib.hid ⟨pf, ka, i, 0, hS, .inr (.inr (.inl ⟨rfl, rfl⟩))⟩, Lib.hid (Fr.refl _ _)⟩
  · rw [if_pos (by omega)]
    exact mgPrev_eoi hV hM hn hl hb hS
end

end Go.Proofs.YtdkkkikcigjlhaaGreatDoor.Md

namespace Go.Proofs.YtdkkkikcigjlhaaGreatDoor.Md
open Go.RowKit Go.Proofs.YtdkkkikcigjlhaaGreatDoor.Con Go.Proofs.YtdkkkikcigjlhaaGreatDoor.Run Go.Proofs.YtdkkkikcigjlhaaGreatDoorW.PrintWords Go.Proofs.YtdkkkikcigjlhaaGreatDoorW.PrintMore Go.Proofs.YtdkkkikcigjlhaaGreatDoor.Cmp Go.Sort Go.RwLone Go.Proofs.YtdkkkikcigjlhaaGreatDoor.PFnMemMap

def MgIs (f : List Int → List Int → Int) (V : Value) (LL : List (List S44)) (L : List KV) (k : Nat) (Ai : Option Addr) (kc m kb : Nat) (R : Nat → Prop) (it : Nat → Nat) (w : World) (t : Int) (F : Nat → Prop) : Prop :=
  MgPl f V LL L k Ai kc m kb R it w t ∧ ∀ q, F q ↔ (MgF k m kb it q ∨ R q)

section
variable {V : Value} {f : List Int → List Int → Int} {LL : List (List S44)} {L : List KV} {k : Nat} {Ai : Option Addr} {kc m kb : Nat} {R : Nat → Prop} {it : Nat → Nat} {w w1 : World} {F : Nat → Prop}

theorem mg_mv {K : Nat} {args : Array Value} {t j : Int} (hF : ∀ q, F q ↔ (MgF k m kb it q ∨ R q)) (hj : t = j)
    (hc : Calls Tryz.prog K args w fun e w' => MgMv f V LL L k Ai kc m kb R it t w e w') :
    Calls Tryz.prog K args w fun e w' => ∃ bb, e = .returned (.bool bb) ∧ Hid (bb = onL L j) ∧ Hid (Mv (MgIs f V LL L k Ai kc m kb R it) w F j w') := by
  subst hj
  refine hc.mono ?_
  rintro e w' ⟨bb, rfl, h1, h2, h3⟩
  exact ⟨bb, rfl, h1, Lib.hid ⟨F, ⟨h2.out, hF⟩, h3.out.mono (fun k hk => (hF k).2 (.inl hk)), fun k hk => .inl hk⟩⟩

set_option maxRecDepth 100000 in
theorem mg_iter (hV : Cmpr V f) (hM : Mg f LL L) (hn : LL.length = k) (hl : k ≤ 4294967296) (hb : ∀ l ∈ LL, l.length ≤ 4294967296 ∧ ∀ x ∈ l, Byt x.f0) (hq : ∀ a ∈ L, a.1.length ≤ 4294967296) :
    Iter f 193 (.pointer (some ⟨m, 0, none⟩)) 210 212 213 214 216 218 209 211 219
      L (MgIs f V LL L k Ai kc m kb R it) where
  n := by
    intro m hm w
    simp only [List.mem_cons, List.not_mem_nil, or_false] at hm
    rcases hm with rfl | rfl | rfl | rfl | rfl | rfl | rfl | rfl | rfl <;> kernel_rfl
  mF := fun w => by kernel_rfl
  mL := fun w => by kernel_rfl
  mN := fun w => by kernel_rfl
  mP := fun w => by kernel_rfl
  mS := fun w => by kernel_rfl
  mV := fun w => by kernel_rfl
  mE := fun w => by kernel_rfl
  mK := fun w => by kernel_rfl
  mU := fun w => by kernel_rfl
  c := by
    intro k hk args w
    simp only [List.mem_cons, List.not_mem_nil, or_false] at hk
    rcases hk with rfl | rfl | rfl | rfl | rfl | rfl | rfl | rfl | rfl
    · exact Go.MuLone.run_callFunc_enter Tryz.func210 (by kernel_rfl) rfl args w
    · exact Go.MuLone.run_callFunc_enter Tryz.func212 (by kernel_rfl) rfl args w
    · exact Go.MuLone.run_callFunc_enter Tryz.func213 (by kernel_rfl) rfl args w
    · exact Go.MuLone.run_callFunc_enter Tryz.func214 (by kernel_rfl) rfl args w
    · exact Go.MuLone.run_callFunc_enter Tryz.func216 (by kernel_rfl) rfl args w
    · exact Go.MuLone.run_callFunc_enter Tryz.func218 (by kernel_rfl) rfl args w
    · exact Go.MuLone.run_callFunc_enter Tryz.func209 (by kernel_rfl) rfl args w
    · exact Go.MuLone.run_callFunc_enter Tryz.func211 (by kernel_rfl) rfl args w
    · exact Go.MuLone.run_callFunc_enter Tryz.func219 (by kernel_rfl) rfl args w
  inside := by
    rintro w i F ⟨h, hF⟩ k hk
    exact h.top k ((hF k).1 hk)
  keep := by
    rintro w w1 i F ⟨h, hF⟩ hk hs
    exact ⟨h.keep (fun k hk2 => hk k ((hF k).2 hk2)) hs, hF⟩
  first := by
    rintro w i F ⟨h, hF⟩
    exact mg_mv hF rfl (mgFirst_mv hV hM hn hl hb h)
  last := by
    rintro w i F ⟨h, hF⟩
    exact mg_mv hF rfl (mgLast_mv hV hM hn hl hb h)
  next := by
    rintro w i F ⟨h, hF⟩
    exact mg_mv hF rfl (mgNext_calls hV hM hn hl hb hq h)
  prev := by
    rintro w i F ⟨h, hF⟩
    exact mg_mv hF rfl (mgPrev_calls hV hM hn hl hb hq h)
  seek := by
    rintro w i F ⟨h, hF⟩ B d key hA hk hne
    exact mg_mv hF rfl (mgSeek_mv hV hM hn hl hb hA hk (fun hz a ha e => hne hz a ha ((hF _).2 (.inl e))) h)
  valid := by
    rintro w i F ⟨h, hF⟩
    refine (mgValid_calls h).mono ?_
    rintro e w' ⟨rfl, rfl⟩
    exact ⟨_, rfl, Lib.hid rfl, Lib.hid ⟨F, ⟨h, hF⟩, Fr.refl _ _, fun k hk => .inl hk⟩⟩
  error := by
    rintro w i F ⟨h, hF⟩
    refine (mgError_calls h).mono ?_
    rintro e w' ⟨rfl, rfl⟩
    exact ⟨rfl, Lib.hid ⟨F, ⟨h, hF⟩, Fr.refl _ _, fun k hk => .inl hk⟩⟩
  key := by
    rintro w i F ⟨h, hF⟩
    refine (mgKey_calls h).mono ?_
    rintro e w' ⟨B, d, rfl, h1, h2, h3⟩
    exact ⟨B, d, rfl, h1, Lib.hid ⟨F, ⟨h2.out, hF⟩, h3.out.mono (fun k hk => (hF k).2 (.inl hk)), fun k hk => .inl hk⟩⟩
  value := by
    rintro w i F ⟨h, hF⟩
    refine (mgValue_calls hV hM hn hb h).mono ?_
    rintro e w' ⟨B, d, rfl, h1, h2, h3⟩
    exact ⟨B, d, rfl, h1, Lib.hid ⟨F, ⟨h2.out, hF⟩, h3.out.mono (fun k hk => (hF k).2 (.inl hk)), fun k hk => .inl hk⟩⟩
end

end Go.Proofs.YtdkkkikcigjlhaaGreatDoor.Md

namespace Go.Proofs.YtdkkkikcigjlhaaGreatDoor.Md
open Go.RowKit Go.Proofs.YtdkkkikcigjlhaaGreatDoor.Con Go.Proofs.YtdkkkikcigjlhaaGreatDoor.Run Go.Proofs.YtdkkkikcigjlhaaGreatDoorW.PrintWords Go.Proofs.YtdkkkikcigjlhaaGreatDoorW.PrintMore Go.Proofs.YtdkkkikcigjlhaaGreatDoor.Cmp Go.Sort Go.RwLone Go.Proofs.YtdkkkikcigjlhaaGreatDoor.PFnMemMap

def kIt : Kd Nat where
  sz := 1
  E := []
  K := fun _ x cs => cs = [dtV x]
  M := fun _ _ _ x cs => cs = [dtV x]
  K_len := by rintro _ _ _ rfl; rfl
  K_one := by
    rintro _ _ _ rfl u hu
    rw [List.mem_singleton] at hu
    subst hu
    rfl
  K_below := fun _ h => h
  K_of_M := fun h => h
  M_mono := fun _ h => h
  M_bound := fun h => h
  M_move := fun _ h => h
  M_lower := fun _ h => h

theorem kIt_mk (W : World) (ok : Nat → Prop) (x : Nat) : Kd.FK kIt W ok x [dtV x] := fun _ _ => rfl
theorem info_It : (Tryz.prog.info? 97).map (fun i => (i.zero, i.size, i.bytes)) = some (some .nilIface, kIt.sz, 16) := by kernel_rfl
theorem info_bs : (Tryz.prog.info? 25).map (fun i => (i.zero, i.size, i.bytes)) = some (some (.slice none 0 0), 1, 24) := by kernel_rfl

set_option maxHeartbeats 1600000 in
theorem NewMergedIterator_calls {T : Nat} {u : Value} {Ai : Option Addr} {k kc : Nat} (hk : k ≤ 4294967296) (w : World) :
    Calls Tryz.prog 68 #[.slice Ai k kc, .iface T u, .bool true] w fun e w' => e = .returned (.iface 193 (.pointer (some ⟨w.heap.size + 1, 0, none⟩))) ∧ w' = (w.alloc (.cells (madeCells #[.slice none 0 0] k) 25)).alloc (mgO (.iface T u) (.slice Ai k kc) w.heap.size k 0 0) := by
  have hmk := print_make_of (P := Tryz.prog) 142 25 (.slice none 0 0) 24 Tryz.underlying142 info_bs rfl (by decide) k (by omega)
  go_enter Tryz.func68, Tryz.ntmps68
  go_wp2
  go_ret
  exact ⟨rfl, rfl⟩

structure Mk (V : Value) (LL : List (List S44)) (B j : Nat) (R : Nat → Prop) (ts : List Nat) (w : World) : Prop where
  len : ts.length = j
  at_ : ∀ x, x < j → ∃ A c, w.heap[ts.getD x 0]? = some (.cells (arCells (arI V A (LL.getD x []).length c) (-1) (-1) (.slice none 0 0) (.slice none 0 0)) 167 (0, 0)) ∧ Kd.F k44n w R A (LL.getD x []).length (LL.getD x [])
  inj : ∀ x y, x < j → y < j → ts.getD x 0 = ts.getD y 0 → x = y
  lo : ∀ x, x < j → B ≤ ts.getD x 0 ∧ ts.getD x 0 < w.heap.size ∧ ¬ R (ts.getD x 0)
  rr : ∀ q, R q → B ≤ q ∧ q < w.heap.size

section
variable {V : Value} {f : List Int → List Int → Int} {LL : List (List S44)} {L : List KV} {B j k : Nat} {R : Nat → Prop} {ts : List Nat} {w w1 w2 : World}

theorem Mk.nil (V : Value) (LL : List (List S44)) (B : Nat) (w : World) : Mk V LL B 0 (fun _ => False) [] w :=
  ⟨rfl, fun x h => absurd h (Nat.not_lt_zero _), fun x y h => absurd h (Nat.not_lt_zero _), fun x h => absurd h (Nat.not_lt_zero _), fun q h => h.elim⟩

theorem Mk.keep (h : Mk V LL B j R ts w) (hk : ∀ q, (R q ∨ ∃ x, x < j ∧ q = ts.getD x 0) → w1.heap[q]? = w.heap[q]?) (hs : w.heap.size ≤ w1.heap.size) : Mk V LL B j R ts w1 where
  len := h.len
  at_ := fun x hx => by
    obtain ⟨A, c, h1, h2⟩ := h.at_ x hx
    exact ⟨A, c, (hk _ (.inr ⟨x, hx, rfl⟩)).trans h1, Kd.F_step h2 (fun q hq _ => hk q (.inl hq))⟩
  inj := h.inj
  lo := fun x hx => ⟨(h.lo x hx).1, Nat.lt_of_lt_of_le (h.lo x hx).2.1 hs, (h.lo x hx).2.2⟩
  rr := fun q hq => ⟨(h.rr q hq).1, Nat.lt_of_lt_of_le (h.rr q hq).2 hs⟩

theorem Mk.below (h : Mk V LL B j R ts w) (hb : Below w.heap.size w w1) : Mk V LL B j R ts w1 := h.keep (fun q hq => hb.block q (by
  rcases hq with hq | ⟨x, hx, rfl⟩
  · exact (h.rr q hq).2
  · exact (h.lo x hx).2.1)) hb.size

theorem gd_left {ts : List Nat} {t x : Nat} (h : x < ts.length) : (ts ++ [t]).getD x 0 = ts.getD x 0 := by
  rw [List.getD_eq_getElem?_getD, List.getD_eq_getElem?_getD, List.getElem?_append_left h]
theorem gd_last {ts : List Nat} {t x : Nat} (h : x = ts.length) : (ts ++ [t]).getD x 0 = t := by
  rw [List.getD_eq_getElem?_getD, h, List.getElem?_append_right (Nat.le_refl _), Nat.sub_self]
  rfl

theorem Mk.add (h : Mk V LL B j R ts w) (hb : Below w.heap.size w w2) {A : Option Addr} {c : Nat} (hF : Kd.F k44n w2 (fun q => w.heap.size ≤ q ∧ q < w2.heap.size) A (LL.getD j []).length (LL.getD j [])) (hB : B ≤ w.heap.size) :
    Mk V LL B (j + 1) (fun q => R q ∨ (w.heap.size ≤ q ∧ q < w2.heap.size)) (ts ++ [w2.heap.size]) (w2.alloc (.cells (arCells (arI V A (LL.getD j []).length c) (-1) (-1) (.slice none 0 0) (.slice none 0 0)) 167)) := by
  have hbx := below_alloc (Below.refl w2.heap.size w2) (.cells (arCells (arI V A (LL.getD j []).length c) (-1) (-1) (.slice none 0 0) (.slice none 0 0)) 167)
  have hnew := blk_new w2 (.cells (arCells (arI V A (LL.getD j []).length c) (-1) (-1) (.slice none 0 0) (.slice none 0 0)) 167)
  have hsz := World.size_alloc w2 (.cells (arCells (arI V A (LL.getD j []).length c) (-1) (-1) (.slice none 0 0) (.slice none 0 0)) 167)
  have h2 := h.below hb
  generalize w2.alloc (.cells (arCells (arI V A (LL.getD j []).length c) (-1) (-1) (.slice none 0 0) (.slice none 0 0)) 167) = w3 at *
  have hwl := hb.size
  refine ⟨by rw [List.length_append, h.len]; rfl, fun x hx => ?_, fun x y hx hy e => ?_, fun x hx => ?_, fun q hq => ?_⟩
  · by_cases e : x = j
    · subst e
      rw [gd_last h.len.symm]
      exact ⟨A, c, hnew, Kd.F_mono (Kd.F_below hF hbx) (fun q hq => .inr hq)⟩
    · rw [gd_left (by rw [h.len]; omega)]
      obtain ⟨A1, c1, h3, h4⟩ := (h2.below hbx).at_ x (by omega)
      exact ⟨A1, c1, h3, Kd.F_mono h4 (fun q hq => .inl hq)⟩
  · by_cases ex : x = j
    · by_cases ey : y = j
      · omega
      · rw [gd_last (by rw [h.len]; exact ex), gd_left (by rw [h.len]; omega)] at e
        have := (h2.lo y (by omega)).2.1
        omega
    · by_cases ey : y = j
      · rw [gd_last (x := y) (by rw [h.len]; exact ey), gd_left (by rw [h.len]; omega)] at e
        have := (h2.lo x (by omega)).2.1
        omega
      · rw [gd_left (by rw [h.len]; omega), gd_left (by rw [h.len]; omega)] at e
        exact h.inj x y (by omega) (by omega) e
  · by_cases e : x = j
    · rw [gd_last (by rw [h.len]; exact e)]
      refine ⟨by omega, by omega, ?_⟩
      rintro (hr | hr)
      · have := (h.rr _ hr).2; omega
      · omega
    · rw [gd_left (by rw [h.len]; omega)]
      have h5 := h.lo x (by omega)
      refine ⟨h5.1, by omega, ?_⟩
      rintro (hr | hr)
      · exact h5.2.2 hr
      · omega
  · rcases hq with hq | hq
    · have := h.rr q hq
      exact ⟨this.1, by omega⟩
    · exact ⟨by omega, by omega⟩

theorem Mk.grown (h : Mk V LL B j R ts w) {v v1 : Value} (hD : ∀ q, v.ownBlock = some q → ¬ R q ∧ ∀ x, x < j → q ≠ ts.getD x 0) (hg : w.grownBy w1 v.ownBlock) (hat : v1.ownBlock = v.ownBlock ∨ ∃ b, v1.ownBlock = some b ∧ w.heap.size ≤ b) :
    Mk V LL B j R ts w1 ∧ ∀ q, v1.ownBlock = some q → ¬ R q ∧ ∀ x, x < j → q ≠ ts.getD x 0 := by
  refine ⟨h.keep (fun q hq => hg.block q ?_ ?_) hg.size, fun q hq => ?_⟩
  · rcases hq with hq | ⟨x, hx, rfl⟩
    · exact (h.rr q hq).2
    · exact (h.lo x hx).2.1
  · intro e
    have h2 := hD q e.symm
    rcases hq with hq | ⟨x, hx, hq⟩
    · exact h2.1 hq
    · exact h2.2 x hx hq
  · rcases hat with hat | ⟨b, hb, hle⟩
    · exact hD q (by rw [← hat]; exact hq)
    · rw [hb] at hq
      injection hq with hq
      subst hq
      exact ⟨fun z => by have := (h.rr _ z).2; omega, fun x hx e => by have := (h.lo x hx).2.1; omega⟩

theorem Mk.addD (h : Mk V LL B j R ts w) {v : Value} (hD : ∀ q, v.ownBlock = some q → ¬ R q ∧ ∀ x, x < j → q ≠ ts.getD x 0) (hlt : ∀ q, v.ownBlock = some q → q < w.heap.size) {n2 : Nat} (hs : w.heap.size ≤ n2) :
    ∀ q, v.ownBlock = some q → ¬ (R q ∨ (w.heap.size ≤ q ∧ q < n2)) ∧ ∀ x, x < j + 1 → q ≠ (ts ++ [n2]).getD x 0 := by
  intro q hq
  have h1 := hD q hq
  have h2 := hlt q hq
  refine ⟨fun z => z.elim h1.1 (fun z => by omega), fun x hx => ?_⟩
  by_cases e : x = j
  · rw [gd_last (by rw [h.len]; exact e)]; omega
  · rw [gd_left (by rw [h.len]; omega)]; exact h1.2 x (by omega)

theorem mg_fresh (h : Mk V LL B k R ts w) {Ai : Option Addr} {cc : Nat} {ok : Nat → Prop} (hN : Kd.N kIt 97 w B ok (.slice Ai k cc) ts) (hD : ∀ q, (Value.slice Ai k cc).ownBlock = some q → ¬ R q ∧ ∀ x, x < k → q ≠ ts.getD x 0)
    (hw : w2 = (w.alloc (.cells (madeCells #[.slice none 0 0] k) 25)).alloc (mgO V (.slice Ai k cc) w.heap.size k 0 0)) :
    MgIs f V LL L k Ai cc (w.heap.size + 1) w.heap.size (fun q => R q ∨ (Value.slice Ai k cc).ownBlock = some q) (fun x => ts.getD x 0) w2 (-1) (fun q => MgF k (w.heap.size + 1) w.heap.size (fun x => ts.getD x 0) q ∨ (R q ∨ (Value.slice Ai k cc).ownBlock = some q)) ∧ Below w.heap.size w w2 := by
  obtain ⟨h1, h2, h3⟩ := two_new2 w (madeCells #[.slice none 0 0] k) (mgCells V (.slice Ai k cc) w.heap.size k 0 0) 25 197
  have e : w2 = (w.alloc (.cells (madeCells #[.slice none 0 0] k) 25)).alloc (.cells (mgCells V (.slice Ai k cc) w.heap.size k 0 0) 197) := hw
  rw [← e] at h1 h2 h3
  have hsz : w2.heap.size = w.heap.size + 2 := by rw [e, World.size_alloc, World.size_alloc]
  clear hw e
  have hH := h.below h3
  have hlt : ∀ q, (R q ∨ (Value.slice Ai k cc).ownBlock = some q) → q < w.heap.size := fun q hq => hq.elim (fun z => (h.rr q z).2) (fun z => Kd.N_lt hN q z)
  refine ⟨⟨⟨fun _ => -1, _, 0, 0, ⟨h2, h1, size_madeCells _ _, fun x hx => ?_, fun x hx => ?_, h.inj, by omega, fun q hq => ⟨by have := hlt q hq; omega, by have := hlt q hq; omega, by have := hlt q hq; omega⟩⟩, .inr (.inr (.inl ⟨rfl, rfl⟩))⟩, fun q => Iff.rfl⟩, h3⟩
  · obtain ⟨ad, c, rfl, hcl, hK, hcc, -⟩ := Kd.F_get (Kd.N_F hN) (0 : Nat) (x : Int) (Int.natCast_nonneg _) (by omega)
    have hc0 := Kd.FK_now hK
    rw [Int.toNat_natCast] at hcc hc0
    have hcs : c = [dtV (ts.getD x 0)] := hc0
    subst hcs
    have hc1 := hcc 0 _ rfl
    rw [show x * kIt.sz + 0 = x from Nat.mul_one x] at hc1
    exact ⟨ad, rfl, pw_cell_below h3 hc1, .inr (by simp only [Value.ownBlock, Addr.add]; split <;> rfl)⟩
  · obtain ⟨A, c, h4, h5⟩ := hH.at_ x hx
    have hl := h.lo x hx
    have hnr : ¬ (R (ts.getD x 0) ∨ (Value.slice Ai k cc).ownBlock = some (ts.getD x 0)) := fun q => q.elim hl.2.2 (fun z => (hD _ z).2 x hx rfl)
    refine ⟨by omega, by omega, hnr, A, c, -1, .slice none 0 0, .slice none 0 0, ⟨h4, Kd.F_mono (nn_F h5) (fun q hq => ⟨.inl (.inl hq), fun z => hnr (.inl (by rw [← z]; exact hq))⟩), ArKv.nil _ _ (by unfold onL; rfl), ⟨by omega, by omega⟩, ⟨fun _ => rfl, fun _ => .inl rfl⟩, .inr rfl, fun q hq => ?_⟩, Kd.F_mono h5 (fun q hq => .inl hq), fun q => ?_⟩
    · rcases hq with hq | rfl
      · have := hlt q hq; omega
      · omega
    · rw [on_begin] at q
      cases q
end

end Go.Proofs.YtdkkkikcigjlhaaGreatDoor.Md

namespace Go.Proofs.YtdkkkikcigjlhaaGreatDoor.Md
open Go.RowKit Go.Proofs.YtdkkkikcigjlhaaGreatDoor.Con Go.Proofs.YtdkkkikcigjlhaaGreatDoor.Run Go.Proofs.YtdkkkikcigjlhaaGreatDoorW.PrintWords Go.Proofs.YtdkkkikcigjlhaaGreatDoorW.PrintMore Go.Proofs.YtdkkkikcigjlhaaGreatDoor.Cmp Go.Sort Go.RwLone Go.Proofs.YtdkkkikcigjlhaaGreatDoor.PFnMemMap

def MwTold (f : List Int → List Int → Int) (L : List KV) (ms : List S104) (w : World) (e : Ending) (w' : World) : Prop :=
  ∃ v, e = .returned (.tuple #[v, .bool true]) ∧ Kd.N k121 121 w' w.heap.size (fun k => w.heap.size ≤ k) v (atsL f L (-1) ms) ∧ Below w.heap.size w w'

set_option maxHeartbeats 6400000 in
set_option maxRecDepth 100000 in
theorem MergedWalk_calls {w : World} {o : Int} {ok okm : Nat → Prop} {A Am : Option Addr} {c cm n : Nat} {LL : List (List S44)} {L : List KV} {ms : List S104} {f : List Int → List Int → Int}
    (hV : Cmpr (ordV o) f) (hM : Mg f LL L) (hn : LL.length = n) (hA : Kd.F kLL w ok A n LL) (hc : n ≤ c) (hb : ∀ l ∈ LL, ∀ x ∈ l, Byt x.f0) (hr : ∀ l ∈ LL, risesL f (kvS l) = true) (hl : n ≤ 1048576) (hx : ∀ l ∈ LL, l.length ≤ 1048576 ∧ ∀ x ∈ l, x.f0.length ≤ 4294967296 ∧ x.f1.length ≤ 4294967296)
    (hMs : Kd.F k104 w okm Am ms.length ms) (hbM : ∀ m ∈ ms, Byt m.f1) (hokm : ∀ k, okm k → ¬ w.heap.size ≤ k) (hlM : ms.length ≤ 4294967296) :
    Calls Tryz.prog 36 #[.int .i64 o, .slice A n c, .slice Am ms.length cm] w fun e w' => MwTold f L ms w e w' := by
  obtain ⟨T, hT⟩ : ∃ T, ordV o = .iface T (.agg #[]) := by
    unfold ordV
    split
    · exact ⟨_, rfl⟩
    · split
      · exact ⟨_, rfl⟩
      · exact ⟨_, rfl⟩
  have HT := Lib.hid hT
  rw [hT] at hV
  have HV := Lib.hid hV
  clear hT
  have hlens : ∀ a ∈ L, a.1.length ≤ 4294967296 ∧ a.2.length ≤ 4294967296 := fun a ha => by
    obtain ⟨x, hx1, hx2⟩ := (hM.mem a).1 ha
    obtain ⟨y, hy, rfl⟩ := List.mem_map.1 hx2
    refine (hx (LL.getD x []) ?_).2 y hy
    rw [List.getD_eq_getElem?_getD, List.getElem?_eq_getElem hx1]
    exact List.getElem_mem _
  have HLN := Lib.hid hlens
  have HMG := Lib.hid hM
  have HA := Lib.hid (And.intro hA (And.intro hb (And.intro hr (And.intro hl hx))))
  have HM := Lib.hid (And.intro hMs (And.intro hbM (And.intro hokm hlM)))
  have HNN := Lib.hid hn
  clear hV hM hA hc hb hr hl hx hMs hbM hokm hlM hn hlens
  go_enter Tryz.func36, Tryz.ntmps36
  go_wp2_with (go_at_call 58; (with_reducible refine (orderOf_calls _ _).mono ?_); rintro e w1 ⟨rfl, rfl⟩; rw [HT.out])
  go_loopg [9, 16] n (fun kk v9 v16 w' => ∃ (j : Nat) (R : Nat → Prop) (ts : List Nat), v16 = .int .i64 (j : Int) ∧ Hid (j ≤ n ∧ n ≤ j + kk) ∧ Hid (Mk (.iface T (.agg #[])) LL w.heap.size j R ts w') ∧ Hid (Kd.N kIt 97 w' w.heap.size (fun q => w.heap.size ≤ q) v9 ts) ∧ Hid (∀ q, v9.ownBlock = some q → ¬ R q ∧ ∀ x, x < j → q ≠ ts.getD x 0) ∧ Hid (Below w.heap.size w w'))
  case atStart => exact ⟨0, fun _ => False, [], rfl, Lib.hid ⟨Nat.zero_le _, by omega⟩, Lib.hid (Mk.nil _ _ _ _), Lib.hid (Kd.N_nil _ _ _ _ _), Lib.hid (fun q hq => by simp [Value.ownBlock] at hq), Lib.hid (Below.refl _ _)⟩
  case round =>
    obtain ⟨j, R, ts, rfl, HJ, HMK, HN, HD, HBL⟩ := hrel
    by_cases hj : j < n
    · have hFr : Kd.F kLL wr ok A n LL := Kd.F_below HA.out.1 HBL.out
      obtain ⟨ad, A1, c1, rfl, r0, hl1, hF1⟩ := LL_at hFr hj rfl
      have hmem : LL.getD j [] ∈ LL := mem_at2 HNN.out hj
      have HRI := Lib.hid (HA.out.2.2.1 _ hmem)
      have HBY := Lib.hid (HA.out.2.1 _ hmem)
      have HXS := Lib.hid (HA.out.2.2.2.2 _ hmem)
      have HX := Lib.hid (And.intro hl1 hF1)
      obtain ⟨x, hxx⟩ : ∃ x, LL.getD j [] = x := ⟨_, rfl⟩
      have HXX := Lib.hid hxx
      rw [hxx] at HRI HBY HXS HX
      have e0 : (LL.getD j []).length = x.length := by rw [hxx]
      rw [e0] at r0
      have z0 : decide ((j : Int) < (n : Int)) = true := decide_eq_true (by omega)
      have z2 : (j : Int) < (n : Int) := by omega
      have HJL := Lib.hid (And.intro hj HJ.out.2)
      have HTS := Lib.hid (show (ts.length + 1) * 16 ≤ 140737488355328 by have := HMK.out.len; have := HA.out.2.2.2.1; omega)
      have w1' : wrap64 ((j : Int) + 1) = (j : Int) + 1 := wz (by omega) (by have := HA.out.2.2.2.1; omega)
      clear hFr hmem hl1 hF1 hj hxx e0
      go_wp2_with (first
        | (go_at_call 59; (with_reducible refine (rising_calls HV.out rfl (by have := HXS.out.1; omega) HX.out.2 HBY.out).mono ?_); rintro e w2 ⟨rfl, hb2⟩; rw [HRI.out]; have HB2 := Lib.hid hb2; clear hb2)
        | (go_at_call 60; (with_reducible refine (copied_nn rfl (Kd.F_below HX.out.2 HB2.out) (by have := HXS.out.1; omega) HXS.out.2).mono ?_); rintro e w3 ⟨A3, c3, rfl, hc3, hF3, hb3⟩; have HF3 := Lib.hid hF3; have HB3 := Lib.hid hb3; clear hF3 hb3 hc3)
        | (go_at_call 62; (with_reducible refine (NewArrayIterator_calls _ _ _ _ rfl).mono ?_); rintro e w4 ⟨rfl, he4⟩; have HE4 := Lib.hid he4; have HB4 := Lib.hid (show Below w3.heap.size w3 w4 from he4 ▸ below_alloc (Below.refl _ _) _); clear he4; have HBS := Lib.hid (HBL.out.trans (((HB2.out.trans (HB3.out.mono HB2.out.size)).trans (HB4.out.mono (Nat.le_trans HB2.out.size HB3.out.size))).mono HBL.out.size)); have HN4 := Lib.hid (Kd.N_below HN.out ((HB2.out.trans (HB3.out.mono HB2.out.size)).trans (HB4.out.mono (Nat.le_trans HB2.out.size HB3.out.size)))))
        | (at_builtin; go_loud (refine Kd.N_append kIt w.heap.size rfl (.tmp 24) (.tmp 31) 126 97 .nilIface 16 rfl Tryz.underlying126 info_It rfl (by decide) (by decide) _ _ w3.heap.size [dtV w3.heap.size] (fun k => w.heap.size ≤ k) (fun _ => False) rfl rfl (kIt_mk _ _ _) (fun k hk => hk.elim) (fun k hk => Nat.le_trans HBS.out.size hk) HN4.out HBS.out HBS.out.size HTS.out ?_); intro v5 w5 hn5 hb5 hg5 hat5))
      have hF4 := HF3.out
      rw [← HXX.out] at hF4
      have hmk2 := HMK.out.below HB2.out
      have hmk4 := hmk2.add HB3.out (c := c3) hF4 (Nat.le_trans HBL.out.size HB2.out.size)
      have hD4 := hmk2.addD HD.out (fun q hq => Nat.lt_of_lt_of_le (Kd.N_lt HN.out q hq) HB2.out.size) HB3.out.size
      have he4 := HE4.out
      rw [← HXX.out] at he4
      have e4 : w4 = w3.alloc (.cells (arCells (arI (.iface T (.agg #[])) A3 (LL.getD j []).length c3) (-1) (-1) (.slice none 0 0) (.slice none 0 0)) 167) := he4
      rw [← e4] at hmk4
      have hfin := hmk4.grown hD4 hg5 hat5
      have HMK5 := Lib.hid hfin.1
      have HD5 := Lib.hid hfin.2
      have HN5 := Lib.hid hn5
      have HB5 := Lib.hid hb5
      clear hF4 hmk2 hmk4 hD4 he4 e4 hfin hn5 hb5 hg5 hat5
      go_roundg (gk - 1)
      case measure => exact round_less HJL.out.1 HJL.out.2
      case rel => exact ⟨j + 1, _, _, (by first | rfl | exact congrArg _ w1'), Lib.hid (round_next HJL.out.1 HJL.out.2), HMK5, HN5, HD5, HB5⟩
    · have z0 : decide ((j : Int) < (n : Int)) = false := decide_eq_false (by omega)
      have z2 : ¬ (j : Int) < (n : Int) := by omega
      have hjn : j = n := by have := HJ.out.1; omega
      subst hjn
      obtain ⟨A9, c9, rfl⟩ := Kd.N_slice HN.out
      rw [HMK.out.len] at HN HD ⊢
      have HLE := Lib.hid (show j ≤ 4294967296 by have := HA.out.2.2.2.1; omega)
      have HIT := Lib.hid (show ∀ l ∈ LL, l.length ≤ 4294967296 ∧ ∀ x ∈ l, Byt x.f0 from fun l hl => ⟨by have := (HA.out.2.2.2.2 l hl).1; omega, HA.out.2.1 l hl⟩)
      clear hj
      go_wp2_with (go_at_call 68; (with_reducible refine (NewMergedIterator_calls HLE.out _).mono ?_); rintro e w3 ⟨rfl, he3⟩; have HE3 := Lib.hid he3; clear he3)
      have hst := mg_fresh (f := f) (L := L) HMK.out HN.out HD.out HE3.out
      have HST := Lib.hid hst.1
      have HB4 := Lib.hid (HBL.out.trans (hst.2.mono HBL.out.size))
      have HGE := Lib.hid (show ∀ q, MgF j (wr.heap.size + 1) wr.heap.size (fun x => ts.getD x 0) q ∨ (R q ∨ (Value.slice A9 j c9).ownBlock = some q) → w.heap.size ≤ q from fun q hq => by
        have h1 := HBL.out.size
        rcases hq with (rfl | rfl | ⟨x, hx, rfl⟩) | hq | hq
        · omega
        · omega
        · exact (HMK.out.lo x hx).1
        · exact (HMK.out.rr q hq).1
        · exact Kd.N_base HN.out q hq)
      clear hst HE3
      refine (walk_calls (mg_iter HV.out HMG.out HNN.out HLE.out HIT.out (fun a ha => (HLN.out a ha).1)) HST.out (Kd.F_below HM.out.1 HB4.out) HM.out.2.1 (fun k hk _ q => HM.out.2.2.1 k hk (HGE.out k q)) (fun k hk => by have := HM.out.2.2.1 k hk; have := HB4.out.size; omega) HLN.out HM.out.2.2.2).mono ?_
      rintro e w5 ⟨v, F', rfl, hN, hMv⟩
      go_wp2
      go_ret2
      refine ⟨v, rfl, ?_, ?_⟩
      · exact N_low (Kd.N_mono hN (ok' := fun k => w.heap.size ≤ k) (fun k hk => Nat.le_trans HB4.out.size hk.1)) HB4.out.size
      · exact below_fr HB4.out HB4.out.size hMv.fr (fun k hk => HGE.out k hk)

end Go.Proofs.YtdkkkikcigjlhaaGreatDoor.Md

namespace Go.Proofs.YtdkkkikcigjlhaaGreatDoor.Md
open Go.Proofs.YtdkkkikcigjlhaaGreatDoor.PFnMemMap

section
variable {f : List Int → List Int → Int} {key val : List Int}

theorem putL_mem (ho : Ord f) : ∀ {L : List KV}, (∀ x ∈ L, x.1 ≠ key) → ∀ a, a ∈ putL f key val L ↔ a = (key, val) ∨ a ∈ L := by
  intro L
  induction L with
  | nil => intro _ a; simp [putL]
  | cons x r ih =>
    intro h a
    have h0 : ¬ f x.1 key = 0 := fun e => h x (by simp) ((ho.zero _ _).1 e)
    have ih' := ih (fun y hy => h y (by simp [hy])) a
    unfold putL
    by_cases q : f x.1 key < 0
    · rw [if_pos q, List.mem_cons, List.mem_cons, ih']
      constructor
      · rintro (e | e | e)
        · exact .inr (.inl e)
        · exact .inl e
        · exact .inr (.inr e)
      · rintro (e | e | e)
        · exact .inr (.inl e)
        · exact .inl e
        · exact .inr (.inr e)
    · rw [if_neg q, if_neg h0, List.mem_cons]

theorem putL_up (ho : Ord f) : ∀ {L : List KV}, Up f L → Up f (putL f key val L) := by
  intro L
  induction L with
  | nil => intro _; exact List.pairwise_singleton _ _
  | cons x r ih =>
    intro h
    obtain ⟨h1, h2⟩ := List.pairwise_cons.1 h
    unfold putL
    by_cases q : f x.1 key < 0
    · rw [if_pos q]
      exact List.pairwise_cons.2 ⟨putL_all (p := fun y => f x.1 y.1 < 0) q r h1, ih h2⟩
    · rw [if_neg q]
      by_cases z : f x.1 key = 0
      · rw [if_pos z]
        have e := (ho.zero _ _).1 z
        exact List.pairwise_cons.2 ⟨fun y hy => by show f key y.1 < 0; rw [← e]; exact h1 y hy, h2⟩
      · rw [if_neg z]
        have hk : f key x.1 < 0 := by
          rcases not_less ho q with e | e
          · exact e
          · exact absurd ((ho.zero _ _).2 e.symm) z
        refine List.pairwise_cons.2 ⟨fun y hy => ?_, h⟩
        rcases List.mem_cons.1 hy with rfl | hy
        · exact hk
        · exact ho.trans _ _ _ hk (h1 y hy)

theorem hit_not (ho : Ord f) {L : List KV} (hL : Up f L) (h : hitL f key L = false) : ∀ x ∈ L, x.1 ≠ key := by
  intro x hx e
  obtain ⟨i, hi, rfl⟩ := gK_of hx
  have hfi : findL f key L = i := by
    rw [← e]
    refine findL_is ho hL (Nat.le_of_lt hi) (fun j hj => up_at hL hj hi) (fun j hj1 hj2 => ?_)
    rw [up_less ho hL hj2 hi]
    omega
  unfold hitL at h
  rw [hfi, List.getElem?_eq_getElem hi] at h
  have e2 : L[i].1 = key := by
    unfold gK at e
    rw [List.getD_eq_getElem?_getD, List.getElem?_eq_getElem hi] at e
    exact e
  simp [e2] at h

def Fresh (f : List Int → List Int → Int) (F : List S44) : Prop := Up f (putsL f F) ∧ (∀ a, a ∈ putsL f F ↔ a ∈ kvS F) ∧ F.Pairwise fun a b => a.f0 ≠ b.f0

theorem Fresh.nil : Fresh f [] := ⟨List.Pairwise.nil, fun a => Iff.rfl, List.Pairwise.nil⟩
theorem Fresh.snoc (ho : Ord f) {F : List S44} {x : S44} (h : Fresh f F) (hh : hitL f x.f0 (putsL f F) = false) : Fresh f (F ++ [x]) := by
  obtain ⟨h1, h2, h3⟩ := h
  have h4 := hit_not ho h1 hh
  refine ⟨by rw [putsL_snoc]; exact putL_up ho h1, fun a => ?_, List.pairwise_append.2 ⟨h3, List.pairwise_singleton _ _, fun a ha b hb => ?_⟩⟩
  · rw [putsL_snoc, putL_mem ho h4, h2 a]
    unfold kvS
    rw [List.map_append, List.mem_append, List.map_cons, List.map_nil, List.mem_singleton]
    exact ⟨fun q => q.elim .inr .inl, fun q => q.elim .inr .inl⟩
  · rw [List.mem_singleton] at hb
    subst hb
    have : (a.f0, a.f1) ∈ putsL f F := (h2 _).2 (List.mem_map.2 ⟨a, ha, rfl⟩)
    exact h4 _ this

theorem flat_mem {LL : List (List S44)} {a : KV} : a ∈ kvS LL.flatten ↔ ∃ x, x < LL.length ∧ a ∈ kvS (LL.getD x []) := by
  unfold kvS
  constructor
  · intro h
    obtain ⟨y, hy, rfl⟩ := List.mem_map.1 h
    obtain ⟨l, hl, hyl⟩ := List.mem_flatten.1 hy
    obtain ⟨i, hi, rfl⟩ := List.getElem_of_mem hl
    refine ⟨i, hi, ?_⟩
    rw [List.getD_eq_getElem?_getD, List.getElem?_eq_getElem hi]
    exact List.mem_map.2 ⟨y, hyl, rfl⟩
  · rintro ⟨x, hx, h⟩
    obtain ⟨y, hy, rfl⟩ := List.mem_map.1 h
    refine List.mem_map.2 ⟨y, List.mem_flatten.2 ⟨LL.getD x [], ?_, hy⟩, rfl⟩
    rw [List.getD_eq_getElem?_getD, List.getElem?_eq_getElem hx]
    exact List.getElem_mem _

theorem apart {LL : List (List S44)} (h : LL.flatten.Pairwise fun a b => a.f0 ≠ b.f0) {x y : Nat} {a b : KV} (hxy : x < y) (hy : y < LL.length) (ha : a ∈ kvS (LL.getD x [])) (hb : b ∈ kvS (LL.getD y [])) : a.1 ≠ b.1 := by
  have h2 := (List.pairwise_flatten.1 h).2
  have h3 := (List.pairwise_iff_getElem.1 h2) x y (by omega) hy hxy
  rw [List.getD_eq_getElem?_getD, List.getElem?_eq_getElem (by omega : x < LL.length)] at ha
  rw [List.getD_eq_getElem?_getD, List.getElem?_eq_getElem hy] at hb
  obtain ⟨p, hp, rfl⟩ := List.mem_map.1 ha
  obtain ⟨q, hq, rfl⟩ := List.mem_map.1 hb
  exact h3 p hp q hq

theorem mg_of (ho : Ord f) {LL : List (List S44)} (hF : Fresh f LL.flatten) (hr : ∀ l ∈ LL, Up f (kvS l)) : Mg f LL (putsL f LL.flatten) where
  ord := ho
  up := hF.1
  ups := fun x hx => hr _ (by
    rw [List.getD_eq_getElem?_getD, List.getElem?_eq_getElem hx]
    exact List.getElem_mem _)
  mem := fun a => (hF.2.1 a).trans flat_mem
  one := by
    intro x y a b hx hy ha hb e
    rcases Nat.lt_trichotomy x y with q | q | q
    · exact absurd e (apart hF.2.2 q hy ha hb)
    · exact q
    · exact absurd e.symm (apart hF.2.2 q hx hb ha)
end

end Go.Proofs.YtdkkkikcigjlhaaGreatDoor.Md
