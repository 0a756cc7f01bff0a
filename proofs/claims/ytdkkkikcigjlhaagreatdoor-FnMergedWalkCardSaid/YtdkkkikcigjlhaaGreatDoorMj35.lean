/- The array's iterator over rows whose slices are not nil: its key is not nil. Lists that are merged: where each stands, pure. -/
import Derived.Test.YtdkkkikcigjlhaaGreatDoorMj34
import Derived.BigRegion
import Derived.Test.YtdkkkikcigjlhaaGreatDoorMj33
set_option linter.unusedVariables false
set_option linter.unusedSimpArgs false
namespace Go.Proofs.YtdkkkikcigjlhaaGreatDoor.Md
open Go.RowKit Go.Proofs.YtdkkkikcigjlhaaGreatDoor.Con Go.Proofs.YtdkkkikcigjlhaaGreatDoor.Run Go.Proofs.YtdkkkikcigjlhaaGreatDoorW.PrintWords Go.Proofs.YtdkkkikcigjlhaaGreatDoorW.PrintMore Go.Proofs.YtdkkkikcigjlhaaGreatDoor.Cmp Go.Sort Go.RwLone Go.Proofs.YtdkkkikcigjlhaaGreatDoor.PFnMemMap

def IdxTold2 (ok : Nat → Prop) (x : S44) (w : World) (e : Ending) (w' : World) : Prop :=
  ∃ A1 c1 A2 c2, e = .returned (.tuple #[.slice A1 x.f0.length c1, .slice A2 x.f1.length c2]) ∧ Hid (Kd.F (Kd.int .u8) w' ok A1 x.f0.length x.f0) ∧ Hid (Kd.F (Kd.int .u8) w' ok A2 x.f1.length x.f1) ∧ Hid (Below w.heap.size w w') ∧ Hid (NotNil (.slice A1 x.f0.length c1))

set_option maxHeartbeats 3200000 in
set_option maxRecDepth 100000 in
theorem arr_index2 {V : Value} {A : Option Addr} {n c : Nat} {l : List S44} {ok : Nat → Prop} {w : World} {i : Nat} (h : Kd.F k44n w ok A n l) (hi : i < n) (x : S44) (hx : l.getD i (⟨[], []⟩ : S44) = x) :
    Calls Tryz.prog 250 #[arrV V A n c, .int .i64 (i : Int)] w fun e w' => IdxTold2 ok x w e w' := by
  have hb := below_alloc (Below.refl w.heap.size w) (.cells #[V, .slice A n c] 114)
  have hst := blk_new w (.cells #[V, .slice A n c] 114)
  have t1 : (w.alloc (.cells #[V, .slice A n c] 114)).cell? ⟨w.heap.size, 1, none⟩ = some (.slice A n c) := (blk_cell hst 1).trans rfl
  clear hst
  obtain ⟨ad, cs', rfl, hcl, hK, hcell, hokb⟩ := Kd.F_get (Kd.F_below h hb) (⟨[], []⟩ : S44) (i : Int) (Int.natCast_nonneg _) (by omega)
  obtain ⟨hK, hnn⟩ := nn_open hK
  obtain ⟨A1, c1, A2, c2, rfl, hl1, hF1, hl2, hF2⟩ := k44_openF hK
  have r0 := hcell 0 _ rfl
  have r1 := hcell 1 _ rfl
  rw [Int.toNat_natCast] at r0 r1 hF1 hF2 hnn
  have e2 : i * k44n.sz + 0 = i * 2 := rfl
  have e3 : i * k44n.sz + 1 = i * 2 + 1 := rfl
  rw [e2] at r0
  rw [e3, add_field ad (i * 2) 1 (by omega)] at r1
  rw [hx] at r0 r1 hF1 hF2 hnn
  have HNN := Lib.hid (hnn (.slice A1 x.f0.length c1) (by simp))
  have HF1 := Lib.hid hF1
  have HF2 := Lib.hid hF2
  have HB := Lib.hid hb
  clear hnn hb hF1 hF2 hcell hK hcl e2 e3 hokb hl1 hl2 hx h
  have z0 : decide ((i : Int) < (n : Int)) = true := decide_eq_true (by omega)
  have z1 : decide ((0 : Int) ≤ (i : Int)) = true := decide_eq_true (by omega)
  unfold arrV
  go_enter Tryz.func250, Tryz.ntmps250
  go_upto_region 1 with (fail)
  generalize w.alloc (.cells #[V, .slice (some ad) n c] 114) = w1 at *
  refine still_all (by kernel_rfl) (by kernel_rfl) ?_
  intro W2 hW2
  have t1 := drew_cell hW2 t1
  have r0 := drew_cell hW2 r0
  have r1 := drew_cell hW2 r1
  have HB2 := Lib.hid (HB.out.trans ((drew_below hW2).mono HB.out.size))
  have HG1 := Lib.hid (Kd.F_below HF1.out (drew_below hW2))
  have HG2 := Lib.hid (Kd.F_below HF2.out (drew_below hW2))
  clear hW2
  repeat still_step
  refine wpStill_nil ?_
  go_wp2
  go_ret2
  exact ⟨_, _, _, _, rfl, HG1, HG2, HB2, HNN⟩

def UpdTold2 (V : Value) (l : List S44) (A : Option Addr) (n c it : Nat) (F : Nat → Prop) (w : World) (i pos : Int) (e : Ending) (w' : World) : Prop :=
  e = .returned (.tuple #[]) ∧ ∃ ka va, Hid (ArAt V l A n c it F w' i pos pos ka va) ∧ Hid (Fr w w' (fun k => k = it)) ∧ Hid (onL (kvS l) pos = true → NotNil ka)

section
variable {V : Value} {l : List S44} {A : Option Addr} {n c it : Nat} {F : Nat → Prop} {w : World} {i pos pos2 : Int} {ka va : Value} {f : List Int → List Int → Int}

set_option maxHeartbeats 6400000 in
set_option maxRecDepth 100000 in
theorem upd_calls2 (hV : Cmpr V f) (hn : l.length = n) (hl : n ≤ 4294967296) (hb : ∀ x ∈ l, Byt x.f0) (h : ArAt V l A n c it F w i pos pos2 ka va) (hrow : Kd.F k44n w (fun k => F k ∧ k ≠ it) A n l) (hnn : onL (kvS l) pos2 = true → NotNil ka) :
    Calls Tryz.prog 202 #[.pointer (some ⟨it, 0, none⟩)] w fun e w' => UpdTold2 V l A n c it F w i pos e w' := by
  obtain ⟨K1, d1, K2, d2, rfl, rfl, -, -⟩ := h.kv
  have HH := Lib.hid h
  have HRW := Lib.hid hrow
  have HNIL := Lib.hid hnn
  have HN := Lib.hid (And.intro hn hl)
  have HB := Lib.hid (arr_barr (A := A) (c := c) hV hn hl hb (fun k => F k ∧ k ≠ it))
  have k3 : w.cell? ⟨it, 3, none⟩ = some (.int .i64 pos) := (blk_cell h.blk 3).trans rfl
  have k6 : w.cell? ⟨it, 6, none⟩ = some (.int .i64 pos2) := (blk_cell h.blk 6).trans rfl
  have f6 : w.frozen? ⟨it, 6, none⟩ = false := blk_frozen h.blk 6
  clear hV hb h hrow hnn
  by_cases hp : pos2 = pos
  · subst hp
    have z0 : (pos2 == pos2) = true := by rw [beq_iff_eq]
    go_enter Tryz.func202, Tryz.ntmps202
    go_upto_region 0 with (fail)
    go_region
    all_goals (
      go_wp2
      refine bodyPost_ret (results_none rfl _ _ _) rfl ?_
      exact ⟨rfl, _, _, Lib.hid (HH.out.keep (w1 := w.drew) (fun _ _ => rfl) (Nat.le_refl _)), Lib.hid (fr_below (Fr.refl w (fun k => k = it)) (below_drew (Below.refl _ _))), HNIL⟩)
  · have z0 : (pos2 == pos) = false := by rw [beq_eq_false_iff_ne]; exact hp
    clear hp
    have hb1 : (w.setCell ⟨it, 6, none⟩ (.int .i64 pos)).drew.heap[it]? = some (.cells (arCells (arI V A n c) pos pos (.slice K1 (keyL (kvS l) pos2).length d1) (.slice K2 (valL (kvS l) pos2).length d2)) 167 (0, 0)) := blk_set HH.out.blk 6 _
    have hf1 : Fr w (w.setCell ⟨it, 6, none⟩ (.int .i64 pos)).drew (fun k => k = it) := fr_below (fr_set (j := 6) (Fr.refl w (fun k => k = it)) (.int .i64 pos)) (below_drew (Below.refl _ _))
    have HB1 := Lib.hid (And.intro hb1 hf1)
    have HVAL := Lib.hid (baValid (w := (w.setCell ⟨it, 6, none⟩ (.int .i64 pos)).drew) (pos := pos) HB.out hb1 ⟨rfl, rfl, rfl, rfl⟩)
    clear hb1 hf1
    by_cases ho : 0 ≤ pos ∧ pos < (n : Int)
    · have z1 : (decide (0 ≤ pos) && decide (pos < (n : Int))) = true := by simp [ho]
      rw [z1] at HVAL
      obtain ⟨m, rfl⟩ : ∃ m : Nat, pos = (m : Int) := ⟨pos.toNat, by omega⟩
      have hm : m < n := by omega
      have HM := Lib.hid hm
      clear ho z1 hm
      have n1 : ∀ w, (nilAhead 418 114 (arrV V A n c) "Index").run Tryz.prog w = .ok (some false) w := fun w => by kernel_rfl
      have m1 : ∀ w, (method 418 114 (arrV V A n c) "Index").run Tryz.prog w = .ok (250, arrV V A n c) w := fun w => by kernel_rfl
      have q1 : ∀ (args : Array Value) (w : World), (callFunc 250 args).run Tryz.prog w = .ok (.enter 250 args) w := fun args w => Go.MuLone.run_callFunc_enter Tryz.func250 (by kernel_rfl) rfl args w
      go_enter Tryz.func202, Tryz.ntmps202
      go_upto_region 0 with (fail)
      go_region
      go_upto_region 3 with (go_at_call 200; (with_reducible refine HVAL.out.mono ?_); rintro e w3 ⟨rfl, hbv⟩; have hb3 := (hbv.out.block it (blk_lt HB1.out.1)).trans HB1.out.1; have HF3 := Lib.hid (fr_below HB1.out.2 hbv.out); have s5 := (blk_cell hb3 5).trans rfl; have s6 := (blk_cell hb3 6).trans rfl; have f7 := blk_frozen hb3 7; have f8 := blk_frozen hb3 8; have s7 := (blk_cell hb3 7).trans rfl; have s8 := (blk_cell hb3 8).trans rfl)
      have hb4 : w3.drew.heap[it]? = some (.cells (arCells (arI V A n c) m m (.slice K1 (keyL (kvS l) pos2).length d1) (.slice K2 (valL (kvS l) pos2).length d2)) 167 (0, 0)) := hb3
      have HF4 := Lib.hid (fr_below HF3.out (below_drew (Below.refl w3.heap.size w3)))
      clear s5 s6 f7 f8 s7 s8 hb3 HF3
      have HROW := Lib.hid (Kd.F_step HRW.out (fun k ho hk => HF4.out.block k hk ho.2))
      have HIDX := Lib.hid (arr_index2 (V := V) (c := c) (i := m) HROW.out HM.out (l.getD m (⟨[], []⟩ : S44)) rfl)
      have s5 : w3.drew.cell? ⟨it, 5, none⟩ = some (arI V A n c) := (blk_cell hb4 5).trans rfl
      have s6 : w3.drew.cell? ⟨it, 6, none⟩ = some (.int .i64 (m : Int)) := (blk_cell hb4 6).trans rfl
      generalize hx : l.getD m (⟨[], []⟩ : S44) = x at *
      have HX := Lib.hid hx
      clear hx
      go_region_with ((with_reducible refine HIDX.out.mono ?_); rintro e w4 ⟨A1, c1, A2, c2, rfl, g1, g2, g3, g9⟩; have hb5 := (g3.out.block it (blk_lt hb4)).trans hb4; have s7 := (blk_cell hb5 7).trans rfl; have s8 := (blk_cell hb5 8).trans rfl; have f7 := blk_frozen hb5 7; have f8 := blk_frozen hb5 8)
      all_goals (
        go_wp2
        go_end0
        have hff := fr_set (j := 8) (fr_set (j := 7) (fr_below HF4.out g3.out) (.slice A1 x.f0.length c1)) (.slice A2 x.f1.length c2)
        have hkb : ∀ k, k ≠ it → ((w4.setCell ⟨it, 7, none⟩ (.slice A1 x.f0.length c1)).setCell ⟨it, 8, none⟩ (.slice A2 x.f1.length c2)).heap[k]? = w4.heap[k]? := fun k hk => (Below.heap_setCell _ _ _ k hk).trans (Below.heap_setCell _ _ _ k hk)
        exact ⟨rfl, _, _, Lib.hid (HH.out.fr hff (blk_set (blk_set hb5 7 _) 8 _) ((ArKv.two (by rw [HN.out.1]; exact HM.out) HX.out g1.out g2.out).step (fun k hk _ => hkb k hk.2)) HH.out.rng HH.out.pl), Lib.hid hff, Lib.hid (fun _ => g9.out)⟩)
    · have z1 : (decide (0 ≤ pos) && decide (pos < (n : Int))) = false := by simp; omega
      rw [z1] at HVAL
      have HO : Hid (onL (kvS l) pos = false) := Lib.hid (by unfold onL; rw [kvS_len, HN.out.1]; exact z1)
      clear ho z1
      go_enter Tryz.func202, Tryz.ntmps202
      go_upto_region 0 with (fail)
      go_region
      go_wp2_with (go_at_call 200; (with_reducible refine HVAL.out.mono ?_); rintro e w3 ⟨rfl, hbv⟩; have hb3 := (hbv.out.block it (blk_lt HB1.out.1)).trans HB1.out.1; have HF3 := Lib.hid (fr_below HB1.out.2 hbv.out); have s5 := (blk_cell hb3 5).trans rfl; have s6 := (blk_cell hb3 6).trans rfl; have f7 := blk_frozen hb3 7; have f8 := blk_frozen hb3 8; have s7 := (blk_cell hb3 7).trans rfl; have s8 := (blk_cell hb3 8).trans rfl)
      go_end0
      have hff := fr_set (j := 8) (fr_set (j := 7) HF3.out (.slice none 0 0)) (.slice none 0 0)
      exact ⟨rfl, _, _, Lib.hid (HH.out.fr hff (blk_set (blk_set hb3 7 _) 8 _) (ArKv.nil _ _ HO.out) HH.out.rng HH.out.pl), Lib.hid hff, Lib.hid (fun h => by rw [HO.out] at h; cases h)⟩
end

end Go.Proofs.YtdkkkikcigjlhaaGreatDoor.Md

namespace Go.Proofs.YtdkkkikcigjlhaaGreatDoor.Md
open Go.Proofs.YtdkkkikcigjlhaaGreatDoor.PFnMemMap

abbrev kvN : KV := ([], [])
def gK (M : List KV) (i : Nat) : KV := M.getD i kvN
theorem gK_mem {M : List KV} {i : Nat} (h : i < M.length) : gK M i ∈ M := by
  unfold gK
  rw [List.getD_eq_getElem?_getD, List.getElem?_eq_getElem h]
  exact List.getElem_mem _
theorem gK_of {M : List KV} {a : KV} (h : a ∈ M) : ∃ i, i < M.length ∧ gK M i = a := by
  obtain ⟨i, hi, rfl⟩ := List.getElem_of_mem h
  exact ⟨i, hi, by unfold gK; rw [List.getD_eq_getElem?_getD, List.getElem?_eq_getElem hi]; rfl⟩
theorem gK_succ (x : KV) (r : List KV) (i : Nat) : gK (x :: r) (i + 1) = gK r i := by unfold gK; rw [List.getD_cons_succ]
theorem gK_zero (x : KV) (r : List KV) : gK (x :: r) 0 = x := by unfold gK; rw [List.getD_cons_zero]

section
variable {f : List Int → List Int → Int} {M L : List KV} {key : List Int}

theorem up_at (h : Up f M) {i j : Nat} (hij : i < j) (hj : j < M.length) : f (gK M i).1 (gK M j).1 < 0 := by
  unfold gK
  rw [List.getD_eq_getElem?_getD, List.getD_eq_getElem?_getD, List.getElem?_eq_getElem hj, List.getElem?_eq_getElem (by omega)]
  exact (List.pairwise_iff_getElem.1 h) i j (by omega) hj hij

theorem findL_less : ∀ (M : List KV) (i : Nat), i < findL f key M → i < M.length ∧ f (gK M i).1 key < 0 := by
  intro M
  induction M with
  | nil => intro i h; simp [findL] at h
  | cons x r ih =>
    intro i h
    rw [findL_cons] at h
    by_cases q : f x.1 key < 0
    · rw [if_pos q] at h
      cases i with
      | zero => exact ⟨by simp, by rw [gK_zero]; exact q⟩
      | succ i =>
        have := ih i (by omega)
        exact ⟨by simp only [List.length_cons]; omega, by rw [gK_succ]; exact this.2⟩
    · rw [if_neg q] at h; omega
theorem findL_not : ∀ (M : List KV), findL f key M < M.length → ¬ f (gK M (findL f key M)).1 key < 0 := by
  intro M
  induction M with
  | nil => intro h; simp at h
  | cons x r ih =>
    intro h
    rw [findL_cons] at h ⊢
    by_cases q : f x.1 key < 0
    · rw [if_pos q] at h ⊢
      rw [gK_succ]
      exact ih (by simp only [List.length_cons] at h; omega)
    · rw [if_neg q, gK_zero]
      exact q

theorem not_less (ho : Ord f) {a b : List Int} (h : ¬ f a b < 0) : f b a < 0 ∨ b = a := by
  have h1 := ho.swap a b
  rcases ho.three a b with e | e | e
  · omega
  · exact .inr ((ho.zero a b).1 e).symm
  · exact .inl (by omega)
theorem less_not (ho : Ord f) {a b : List Int} (h : f a b < 0) : ¬ f b a < 0 := by
  have h1 := ho.swap a b
  omega
theorem findL_is (ho : Ord f) (hM : Up f M) {p : Nat} (hp : p ≤ M.length) (h1 : ∀ i, i < p → f (gK M i).1 key < 0) (h2 : ∀ i, p ≤ i → i < M.length → ¬ f (gK M i).1 key < 0) : findL f key M = p := by
  rcases Nat.lt_trichotomy (findL f key M) p with h | h | h
  · exact absurd (h1 _ h) (findL_not M (by omega))
  · exact h
  · have := findL_less M p h
    exact absurd this.2 (h2 p (Nat.le_refl _) this.1)

theorem up_less (ho : Ord f) (hM : Up f M) {i j : Nat} (hi : i < M.length) (hj : j < M.length) : f (gK M i).1 (gK M j).1 < 0 ↔ i < j := by
  constructor
  · intro h
    rcases Nat.lt_trichotomy i j with q | q | q
    · exact q
    · subst q
      have := (ho.zero (gK M i).1 (gK M i).1).2 rfl
      omega
    · exact absurd h (less_not ho (up_at hM q hi))
  · intro h; exact up_at hM h hj
end

structure Mg (f : List Int → List Int → Int) (LL : List (List S44)) (L : List KV) : Prop where
  ord : Ord f
  up : Up f L
  ups : ∀ x, x < LL.length → Up f (kvS (LL.getD x []))
  mem : ∀ a, a ∈ L ↔ ∃ x, x < LL.length ∧ a ∈ kvS (LL.getD x [])
  one : ∀ x y a b, x < LL.length → y < LL.length → a ∈ kvS (LL.getD x []) → b ∈ kvS (LL.getD y []) → a.1 = b.1 → x = y

def cntG (f : List Int → List Int → Int) (L : List KV) (l : List S44) (c : Nat) : Nat := if c < L.length then findL f (gK L c).1 (kvS l) else l.length

section
variable {f : List Int → List Int → Int} {LL : List (List S44)} {L : List KV} {x y c : Nat} {key : List Int}

theorem cnt_le_len (l : List S44) : cntG f L l c ≤ l.length := by
  unfold cntG
  split
  · have := findL_le f (gK L c).1 (kvS l)
    rw [kvS_len] at this
    exact this
  · exact Nat.le_refl _
theorem Mg.at (h : Mg f LL L) (hx : x < LL.length) {i : Nat} (hi : i < (LL.getD x []).length) : ∃ d, d < L.length ∧ gK L d = gK (kvS (LL.getD x [])) i :=
  gK_of ((h.mem _).2 ⟨x, hx, gK_mem (by rw [kvS_len]; exact hi)⟩)

theorem Mg.who (h : Mg f LL L) (hc : c < L.length) : ∃ x, x < LL.length ∧ cntG f L (LL.getD x []) c < (LL.getD x []).length ∧ gK (kvS (LL.getD x [])) (cntG f L (LL.getD x []) c) = gK L c ∧ cntG f L (LL.getD x []) (c + 1) = cntG f L (LL.getD x []) c + 1 ∧ ∀ y, y < LL.length → y ≠ x → cntG f L (LL.getD y []) (c + 1) = cntG f L (LL.getD y []) c := by
  obtain ⟨x, hx, hm⟩ := (h.mem _).1 (gK_mem hc)
  obtain ⟨i, hi, he⟩ := gK_of hm
  have hux := h.ups x hx
  have hil : i < (LL.getD x []).length := by rw [kvS_len] at hi; exact hi
  have e1 : cntG f L (LL.getD x []) c = i := by
    unfold cntG
    rw [if_pos hc]
    refine findL_is h.ord hux (by omega) (fun j hj => ?_) (fun j hj1 hj2 => ?_)
    · rw [← he]; exact up_at hux hj hi
    · rw [← he, up_less h.ord hux hj2 hi]; omega
  refine ⟨x, hx, by rw [e1]; exact hil, by rw [e1]; exact he, ?_, fun y hy hyx => ?_⟩
  · rw [e1]
    by_cases hc1 : c + 1 < L.length
    · show (if c + 1 < L.length then _ else _) = _
      rw [if_pos hc1]
      refine findL_is h.ord hux (by omega) (fun j hj => ?_) (fun j hj1 hj2 => ?_)
      · have h2 := up_at h.up (Nat.lt_succ_self c) hc1
        by_cases q : j = i
        · rw [q, he]; exact h2
        · have h3 := up_at hux (show j < i by omega) hi
          rw [he] at h3
          exact h.ord.trans _ _ _ h3 h2
      · obtain ⟨d, hd, hde⟩ := h.at hx (i := j) (by rw [kvS_len] at hj2; exact hj2)
        have h3 := up_at hux (show i < j by omega) hj2
        rw [he, ← hde, up_less h.ord h.up hc hd] at h3
        rw [← hde, up_less h.ord h.up hd hc1]
        omega
    · show (if c + 1 < L.length then _ else _) = _
      rw [if_neg hc1]
      rcases Nat.lt_or_ge (i + 1) (LL.getD x []).length with q | q
      · obtain ⟨d, hd, hde⟩ := h.at hx q
        have h3 := up_at hux (Nat.lt_succ_self i) (by rw [kvS_len]; exact q)
        rw [he, show i.succ = i + 1 from rfl, ← hde, up_less h.ord h.up hc hd] at h3
        omega
      · omega
  · have huy := h.ups y hy
    have hne : ∀ j, j < (LL.getD y []).length → ∀ d, d < L.length → gK L d = gK (kvS (LL.getD y [])) j → d ≠ c := fun j hj d hd hde e => by
      subst e
      exact hyx (h.one y x _ _ hy hx (gK_mem (by rw [kvS_len]; exact hj)) hm (by rw [← hde]))
    have e2 : cntG f L (LL.getD y []) c = findL f (gK L c).1 (kvS (LL.getD y [])) := by unfold cntG; rw [if_pos hc]
    rw [e2]
    have hfl := findL_le f (gK L c).1 (kvS (LL.getD y []))
    have hge : ∀ j, findL f (gK L c).1 (kvS (LL.getD y [])) ≤ j → j < (kvS (LL.getD y [])).length → ∃ d, d < L.length ∧ gK L d = gK (kvS (LL.getD y [])) j ∧ c < d := by
      intro j hj1 hj2
      have hj3 : j < (LL.getD y []).length := by rw [kvS_len] at hj2; exact hj2
      obtain ⟨d, hd, hde⟩ := h.at hy hj3
      refine ⟨d, hd, hde, ?_⟩
      have h4 : ¬ f (gK (kvS (LL.getD y [])) j).1 (gK L c).1 < 0 := by
        intro hlt
        have h5 := findL_not (f := f) (key := (gK L c).1) (kvS (LL.getD y [])) (by omega)
        by_cases q : findL f (gK L c).1 (kvS (LL.getD y [])) = j
        · rw [q] at h5; exact h5 hlt
        · exact h5 (h.ord.trans _ _ _ (up_at huy (by omega) hj2) hlt)
      rw [← hde, up_less h.ord h.up hd hc] at h4
      have := hne j hj3 d hd hde
      omega
    by_cases hc1 : c + 1 < L.length
    · show (if c + 1 < L.length then _ else _) = _
      rw [if_pos hc1]
      refine findL_is h.ord huy hfl (fun j hj => ?_) (fun j hj1 hj2 => ?_)
      · exact h.ord.trans _ _ _ (findL_less _ j hj).2 (up_at h.up (Nat.lt_succ_self c) hc1)
      · obtain ⟨d, hd, hde, hcd⟩ := hge j hj1 hj2
        rw [← hde, up_less h.ord h.up hd hc1]
        omega
    · show (if c + 1 < L.length then _ else _) = _
      rw [if_neg hc1]
      rcases Nat.lt_or_ge (findL f (gK L c).1 (kvS (LL.getD y []))) (LL.getD y []).length with q | q
      · obtain ⟨d, hd, hde, hcd⟩ := hge _ (Nat.le_refl _) (by rw [kvS_len]; exact q)
        omega
      · rw [kvS_len] at hfl; omega

theorem Mg.seek (h : Mg f LL L) (hx : x < LL.length) : findL f key (kvS (LL.getD x [])) = cntG f L (LL.getD x []) (findL f key L) := by
  have hux := h.ups x hx
  unfold cntG
  by_cases hc : findL f key L < L.length
  · rw [if_pos hc]
    have hn := findL_not L hc
    symm
    refine findL_is h.ord hux (findL_le _ _ _) (fun j hj => ?_) (fun j hj1 hj2 => ?_)
    · obtain ⟨hj1, hj2⟩ := findL_less _ j hj
      rcases not_less h.ord hn with q | q
      · exact h.ord.trans _ _ _ hj2 q
      · rw [← q]; exact hj2
    · intro hlt
      obtain ⟨d, hd, hde⟩ := h.at hx (i := j) (by rw [kvS_len] at hj2; exact hj2)
      have h1 := findL_not (kvS (LL.getD x [])) (f := f) (key := key) (by omega)
      rw [← hde] at hlt
      rw [up_less h.ord h.up hd hc] at hlt
      have h2 := (findL_less L d hlt).2
      rw [hde] at h2
      by_cases q : findL f key (kvS (LL.getD x [])) = j
      · rw [q] at h1; exact h1 h2
      · exact h1 (h.ord.trans _ _ _ (up_at hux (by omega) hj2) h2)
  · rw [if_neg hc]
    refine findL_is h.ord hux (by rw [kvS_len]; exact Nat.le_refl _) (fun j hj => ?_) (fun j hj1 hj2 => ?_)
    · obtain ⟨d, hd, hde⟩ := h.at hx hj
      have := (findL_less (f := f) (key := key) L d (by omega)).2
      rw [hde] at this
      exact this
    · rw [kvS_len] at hj2; omega

theorem Mg.head (h : Mg f LL L) (hx : x < LL.length) (hc : c < L.length) (hi : cntG f L (LL.getD x []) c < (LL.getD x []).length) : ¬ f (gK (kvS (LL.getD x [])) (cntG f L (LL.getD x []) c)).1 (gK L c).1 < 0 := by
  have e : cntG f L (LL.getD x []) c = findL f (gK L c).1 (kvS (LL.getD x [])) := by unfold cntG; rw [if_pos hc]
  rw [e] at hi ⊢
  exact findL_not _ (by rw [kvS_len]; exact hi)
theorem Mg.tail (h : Mg f LL L) (hx : x < LL.length) (hc : c < L.length) {p : Nat} (hp : cntG f L (LL.getD x []) (c + 1) = p + 1) : ¬ f (gK L c).1 (gK (kvS (LL.getD x [])) p).1 < 0 := by
  have hle := cnt_le_len (f := f) (L := L) (c := c + 1) (LL.getD x [])
  obtain ⟨d, hd, hde⟩ := h.at hx (i := p) (by omega)
  rw [← hde, up_less h.ord h.up hc hd]
  by_cases hc1 : c + 1 < L.length
  · have e : cntG f L (LL.getD x []) (c + 1) = findL f (gK L (c + 1)).1 (kvS (LL.getD x [])) := by unfold cntG; rw [if_pos hc1]
    have h1 := (findL_less (f := f) (key := (gK L (c + 1)).1) (kvS (LL.getD x [])) p (by omega)).2
    rw [← hde, up_less h.ord h.up hd hc1] at h1
    omega
  · omega
theorem Mg.zero (h : Mg f LL L) (hx : x < LL.length) : cntG f L (LL.getD x []) 0 = 0 := by
  rcases Nat.eq_zero_or_pos (cntG f L (LL.getD x []) 0) with q | q
  · exact q
  · exfalso
    have hle := cnt_le_len (f := f) (L := L) (c := 0) (LL.getD x [])
    obtain ⟨d, hd, hde⟩ := h.at hx (i := 0) (by omega)
    have e : cntG f L (LL.getD x []) 0 = findL f (gK L 0).1 (kvS (LL.getD x [])) := by unfold cntG; rw [if_pos (by omega)]
    have h1 := (findL_less (f := f) (key := (gK L 0).1) (kvS (LL.getD x [])) 0 (by omega)).2
    rw [← hde, up_less h.ord h.up hd (by omega)] at h1
    omega
theorem cnt_end (l : List S44) (hc : L.length ≤ c) : cntG f L l c = l.length := by unfold cntG; rw [if_neg (by omega)]
end

end Go.Proofs.YtdkkkikcigjlhaaGreatDoor.Md
