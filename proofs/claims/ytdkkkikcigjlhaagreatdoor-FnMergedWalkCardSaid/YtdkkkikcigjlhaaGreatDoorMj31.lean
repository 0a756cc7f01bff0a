/- The array's iterator: its state; its key and value are brought up to its place. The array's iterator: its key and value are brought up to its place. The array's iterator is a cursor on its pairs. -/
import Derived.Test.YtdkkkikcigjlhaaGreatDoorMj30
import Derived.BigRegion
set_option linter.unusedVariables false
set_option linter.unusedSimpArgs false
namespace Go.Proofs.YtdkkkikcigjlhaaGreatDoor.Md
open Go.RowKit Go.Proofs.YtdkkkikcigjlhaaGreatDoor.Con Go.Proofs.YtdkkkikcigjlhaaGreatDoor.Run Go.Proofs.YtdkkkikcigjlhaaGreatDoorW.PrintWords Go.Proofs.YtdkkkikcigjlhaaGreatDoorW.PrintMore Go.Proofs.YtdkkkikcigjlhaaGreatDoor.Cmp Go.Sort Go.RwLone Go.Proofs.YtdkkkikcigjlhaaGreatDoor.PFnMemMap

def arCells (V : Value) (pos pos2 : Int) (ka va : Value) : Array Value := #[.nilIface, .bool false, V, .int .i64 pos, .nilIface, V, .int .i64 pos2, ka, va]

def ArKv (w : World) (ok : Nat → Prop) (L : List KV) (i : Int) (ka va : Value) : Prop :=
  ∃ A1 c1 A2 c2, ka = .slice A1 (keyL L i).length c1 ∧ va = .slice A2 (valL L i).length c2 ∧ Kd.F (Kd.int .u8) w ok A1 (keyL L i).length (keyL L i) ∧ Kd.F (Kd.int .u8) w ok A2 (valL L i).length (valL L i)

abbrev arI (V : Value) (A : Option Addr) (n c : Nat) : Value := .iface 114 (arrV V A n c)

structure ArAt (V : Value) (l : List S44) (A : Option Addr) (n c it : Nat) (F : Nat → Prop) (w : World) (i pos pos2 : Int) (ka va : Value) : Prop where
  blk : w.heap[it]? = some (.cells (arCells (arI V A n c) pos pos2 ka va) 167 (0, 0))
  row : Kd.F k44 w (fun k => F k ∧ k ≠ it) A n l
  kv : ArKv w (fun k => F k ∧ k ≠ it) (kvS l) pos2 ka va
  rng : -1 ≤ pos ∧ pos ≤ (n : Int)
  pl : (0 < n → pos = i) ∧ (n = 0 → i = -1 ∨ i = 0)
  own : F it
  top : ∀ k, F k → k < w.heap.size

def ArSt (V : Value) (l : List S44) (A : Option Addr) (n c it : Nat) (w : World) (i : Int) (F : Nat → Prop) : Prop := ∃ pos pos2 ka va, ArAt V l A n c it F w i pos pos2 ka va

section
variable {V : Value} {l : List S44} {A : Option Addr} {n c it : Nat} {F : Nat → Prop} {w w1 : World} {i j pos pos2 p2 : Int} {ka va ka2 va2 : Value}

theorem ArKv.step {ok : Nat → Prop} {L : List KV} (h : ArKv w ok L i ka va) (hk : ∀ k, ok k → k < w.heap.size → w1.heap[k]? = w.heap[k]?) : ArKv w1 ok L i ka va := by
  obtain ⟨A1, c1, A2, c2, h1, h2, h3, h4⟩ := h
  exact ⟨A1, c1, A2, c2, h1, h2, Kd.F_step h3 hk, Kd.F_step h4 hk⟩

theorem ArAt.keep (h : ArAt V l A n c it F w i pos pos2 ka va) (hk : ∀ k, F k → w1.heap[k]? = w.heap[k]?) (hs : w.heap.size ≤ w1.heap.size) : ArAt V l A n c it F w1 i pos pos2 ka va :=
  ⟨(hk it h.own).trans h.blk, Kd.F_step h.row (fun k ho _ => hk k ho.1), h.kv.step (fun k ho _ => hk k ho.1), h.rng, h.pl, h.own, fun k hf => Nat.lt_of_lt_of_le (h.top k hf) hs⟩

theorem ArAt.fr (h : ArAt V l A n c it F w i pos pos2 ka va) (hf : Fr w w1 (fun k => k = it)) {q q2 : Int} {kb vb : Value} (hb : w1.heap[it]? = some (.cells (arCells (arI V A n c) q q2 kb vb) 167 (0, 0)))
    (hkv : ArKv w1 (fun k => F k ∧ k ≠ it) (kvS l) q2 kb vb) (hr : -1 ≤ q ∧ q ≤ (n : Int)) (hp : (0 < n → q = j) ∧ (n = 0 → j = -1 ∨ j = 0)) : ArAt V l A n c it F w1 j q q2 kb vb :=
  ⟨hb, Kd.F_step h.row (fun k ho hk => hf.block k hk ho.2), hkv, hr, hp, h.own, fun k hk => Nat.lt_of_lt_of_le (h.top k hk) hf.size⟩

theorem ArAt.is (h : ArAt V l A n c it F w i pos pos2 ka va) : BaIs (arCells (arI V A n c) pos pos2 ka va) 114 (arrV V A n c) pos := ⟨rfl, rfl, rfl, rfl⟩

theorem ArAt.told {b : Bool} {K : Nat} {args : Array Value} {q : Int} (h : ArAt V l A n c it F w i pos pos2 ka va) (hr : -1 ≤ q ∧ q ≤ (n : Int)) (hp : (0 < n → q = j) ∧ (n = 0 → j = -1 ∨ j = 0)) (hb : b = onL (kvS l) j)
    (hc : Calls Tryz.prog K args w fun e w' => BaTold w it 167 (arCells (arI V A n c) pos pos2 ka va) b q e w') :
    Calls Tryz.prog K args w fun e w' => ∃ b, e = .returned (.bool b) ∧ Hid (b = onL (kvS l) j) ∧ Hid (Mv (ArSt V l A n c it) w F j w') :=
  hc.mono (by
    rintro e w' ⟨rfl, hf, hblk⟩
    refine ⟨_, rfl, Lib.hid hb, Lib.hid ⟨F, ⟨q, pos2, ka, va, h.fr hf.out hblk.out (h.kv.step (fun k ho hk => hf.out.block k hk ho.2)) hr hp⟩, hf.out.mono (fun k hk => by rw [hk]; exact h.own), fun k hk => .inl hk⟩⟩)

theorem kvS_len (l : List S44) : (kvS l).length = l.length := List.length_map _

theorem keyL_on {l : List S44} {m : Nat} (hm : m < l.length) : keyL (kvS l) (m : Int) = (l.getD m (⟨[], []⟩ : S44)).f0 ∧ valL (kvS l) (m : Int) = (l.getD m (⟨[], []⟩ : S44)).f1 := by
  have ho : onL (kvS l) (m : Int) = true := by unfold onL; rw [kvS_len, Bool.and_eq_true, decide_eq_true_iff, decide_eq_true_iff]; omega
  unfold keyL valL
  rw [if_pos ho, if_pos ho, Int.toNat_natCast]
  have e : (kvS l).getD m ([], []) = ((l.getD m (⟨[], []⟩ : S44)).f0, (l.getD m (⟨[], []⟩ : S44)).f1) := by
    simp [kvS, List.getD_eq_getElem?_getD, List.getElem?_eq_getElem hm]
  rw [e]
  exact ⟨rfl, rfl⟩

theorem keyL_off {L : List KV} {i : Int} (h : onL L i = false) : keyL L i = [] ∧ valL L i = [] := by
  unfold keyL valL
  rw [h]
  exact ⟨rfl, rfl⟩

theorem ArKv.nil (w : World) (ok : Nat → Prop) {L : List KV} {i : Int} (h : onL L i = false) : ArKv w ok L i (.slice none 0 0) (.slice none 0 0) := by
  obtain ⟨h1, h2⟩ := keyL_off h
  refine ⟨none, 0, none, 0, ?_, ?_, ?_, ?_⟩
  · rw [h1]; rfl
  · rw [h2]; rfl
  · rw [h1]; exact Kd.F_nil _ _ _
  · rw [h2]; exact Kd.F_nil _ _ _

theorem ArKv.two {ok : Nat → Prop} {l : List S44} {m : Nat} (hm : m < l.length) {A1 A2 : Option Addr} {c1 c2 : Nat} {x : S44} (hx : l.getD m (⟨[], []⟩ : S44) = x) (h1 : Kd.F (Kd.int .u8) w ok A1 x.f0.length x.f0) (h2 : Kd.F (Kd.int .u8) w ok A2 x.f1.length x.f1) : ArKv w ok (kvS l) (m : Int) (.slice A1 x.f0.length c1) (.slice A2 x.f1.length c2) := by
  obtain ⟨e1, e2⟩ := keyL_on hm
  rw [hx] at e1 e2
  refine ⟨A1, c1, A2, c2, ?_, ?_, ?_, ?_⟩
  · rw [e1]
  · rw [e2]
  · rw [e1]; exact h1
  · rw [e2]; exact h2

theorem arr_barr {f : List Int → List Int → Int} (hV : Cmpr V f) (hn : l.length = n) (hl : n ≤ 4294967296) (hb : ∀ x ∈ l, Byt x.f0) (ok : Nat → Prop) :
    BArr 114 (arrV V A n c) 153 251 n (fun key => findL f key (kvS l)) (fun w => Kd.F k44 w ok A n l) := by
  refine ⟨fun m hm w => ?_, fun w => by kernel_rfl, fun w => by kernel_rfl, fun k hk args w => ?_, hl, fun key => ?_, fun w => ?_, fun w B d key hF hA hk => ?_, fun w w' h hb => Kd.F_below h hb⟩
  · simp only [List.mem_cons, List.mem_nil_iff, or_false] at hm
    rcases hm with rfl | rfl <;> kernel_rfl
  · simp only [List.mem_cons, List.mem_nil_iff, or_false] at hk
    rcases hk with rfl | rfl
    · exact Go.MuLone.run_callFunc_enter Tryz.func153 (by kernel_rfl) rfl args w
    · exact Go.MuLone.run_callFunc_enter Tryz.func251 (by kernel_rfl) rfl args w
  · have := findL_le f key (kvS l)
    rw [kvS_len, hn] at this
    exact this
  · exact arr_len V A n c w
  · exact arr_search hV hn hl hF hb hA hk
end

end Go.Proofs.YtdkkkikcigjlhaaGreatDoor.Md

namespace Go.Proofs.YtdkkkikcigjlhaaGreatDoor.Md
open Go.RowKit Go.Proofs.YtdkkkikcigjlhaaGreatDoor.Con Go.Proofs.YtdkkkikcigjlhaaGreatDoor.Run Go.Proofs.YtdkkkikcigjlhaaGreatDoorW.PrintWords Go.Proofs.YtdkkkikcigjlhaaGreatDoorW.PrintMore Go.Proofs.YtdkkkikcigjlhaaGreatDoor.Cmp Go.Sort Go.RwLone Go.Proofs.YtdkkkikcigjlhaaGreatDoor.PFnMemMap

def UpdTold (V : Value) (l : List S44) (A : Option Addr) (n c it : Nat) (F : Nat → Prop) (w : World) (i pos : Int) (e : Ending) (w' : World) : Prop :=
  e = .returned (.tuple #[]) ∧ ∃ ka va, Hid (ArAt V l A n c it F w' i pos pos ka va) ∧ Hid (Fr w w' (fun k => k = it))

section
variable {V : Value} {l : List S44} {A : Option Addr} {n c it : Nat} {F : Nat → Prop} {w : World} {i pos pos2 : Int} {ka va : Value} {f : List Int → List Int → Int}

theorem fr_set {w w1 : World} {it j : Nat} (h : Fr w w1 (fun k => k = it)) (v : Value) : Fr w (w1.setCell ⟨it, j, none⟩ v) (fun k => k = it) := h.setCell (p := ⟨it, j, none⟩) (.inl rfl) v
theorem fr_below {w w1 w2 : World} {it : Nat} (h : Fr w w1 (fun k => k = it)) (hb : Below w1.heap.size w1 w2) : Fr w w2 (fun k => k = it) := h.then_ (Fr.of_below hb (fun _ => False)) (fun k hk => hk.elim)

set_option maxHeartbeats 6400000 in
set_option maxRecDepth 100000 in
theorem upd_calls (hV : Cmpr V f) (hn : l.length = n) (hl : n ≤ 4294967296) (hb : ∀ x ∈ l, Byt x.f0) (h : ArAt V l A n c it F w i pos pos2 ka va) :
    Calls Tryz.prog 202 #[.pointer (some ⟨it, 0, none⟩)] w fun e w' => UpdTold V l A n c it F w i pos e w' := by
  obtain ⟨K1, d1, K2, d2, rfl, rfl, -, -⟩ := h.kv
  have HH := Lib.hid h
  have HN := Lib.hid (And.intro hn hl)
  have HB := Lib.hid (arr_barr (A := A) (c := c) hV hn hl hb (fun k => F k ∧ k ≠ it))
  have k3 : w.cell? ⟨it, 3, none⟩ = some (.int .i64 pos) := (blk_cell h.blk 3).trans rfl
  have k6 : w.cell? ⟨it, 6, none⟩ = some (.int .i64 pos2) := (blk_cell h.blk 6).trans rfl
  have f6 : w.frozen? ⟨it, 6, none⟩ = false := blk_frozen h.blk 6
  clear hV hb h
  by_cases hp : pos2 = pos
  · subst hp
    have z0 : (pos2 == pos2) = true := by rw [beq_iff_eq]
    go_enter Tryz.func202, Tryz.ntmps202
    go_upto_region 0 with (fail)
    go_region
    all_goals (
      go_wp2
      refine bodyPost_ret (results_none rfl _ _ _) rfl ?_
      exact ⟨rfl, _, _, Lib.hid (HH.out.keep (w1 := w.drew) (fun _ _ => rfl) (Nat.le_refl _)), Lib.hid (fr_below (Fr.refl w (fun k => k = it)) (below_drew (Below.refl _ _)))⟩)
  · have z0 : (pos2 == pos) = false := by rw [beq_eq_false_iff_ne]; exact hp
    clear hp
    have hb1 : (w.setCell ⟨it, 6, none⟩ (.int .i64 pos)).drew.heap[it]? = some (.cells (arCells (arI V A n c) pos pos (.slice K1 (keyL (kvS l) pos2).length d1) (.slice K2 (valL (kvS l) pos2).length d2)) 167 (0, 0)) := blk_set HH.out.blk 6 _
    have hf1 : Fr w (w.setCell ⟨it, 6, none⟩ (.int .i64 pos)).drew (fun k => k = it) := fr_below (fr_set (j := 6) (Fr.refl w (fun k => k = it)) (.int .i64 pos)) (below_drew (Below.refl _ _))
    have HB1 := Lib.hid (And.intro hb1 hf1)
    have HVAL := Lib.hid (baValid (w := (w.setCell ⟨it, 6, none⟩ (.int .i64 pos)).drew) (pos := pos) HB.out hb1 ⟨rfl, rfl, rfl, rfl⟩)
    clear hb1 hf1
    by_cases ho : 0 ≤ pos ∧ pos < (n : Int)
    · have z1 : (decide (0 ≤ pos) && decide (pos < (n : Int))) = true := by simp [ho]
      rw [z1] at HVAL
      obtain ⟨m, rfl⟩ : ∃ m : Nat, pos = (m : Int) := ⟨pos.toNat, by omega⟩
      have hm : m < n := by omega
      have HM := Lib.hid hm
      clear ho z1 hm
      have n1 : ∀ w, (nilAhead 418 114 (arrV V A n c) "Index").run Tryz.prog w = .ok (some false) w := fun w => by kernel_rfl
      have m1 : ∀ w, (method 418 114 (arrV V A n c) "Index").run Tryz.prog w = .ok (250, arrV V A n c) w := fun w => by kernel_rfl
      have q1 : ∀ (args : Array Value) (w : World), (callFunc 250 args).run Tryz.prog w = .ok (.enter 250 args) w := fun args w => Go.MuLone.run_callFunc_enter Tryz.func250 (by kernel_rfl) rfl args w
      go_enter Tryz.func202, Tryz.ntmps202
      go_upto_region 0 with (fail)
      go_region
      go_upto_region 3 with (go_at_call 200; (with_reducible refine HVAL.out.mono ?_); rintro e w3 ⟨rfl, hbv⟩; have hb3 := (hbv.out.block it (blk_lt HB1.out.1)).trans HB1.out.1; have HF3 := Lib.hid (fr_below HB1.out.2 hbv.out); have s5 := (blk_cell hb3 5).trans rfl; have s6 := (blk_cell hb3 6).trans rfl; have f7 := blk_frozen hb3 7; have f8 := blk_frozen hb3 8; have s7 := (blk_cell hb3 7).trans rfl; have s8 := (blk_cell hb3 8).trans rfl)
      have hb4 : w3.drew.heap[it]? = some (.cells (arCells (arI V A n c) m m (.slice K1 (keyL (kvS l) pos2).length d1) (.slice K2 (valL (kvS l) pos2).length d2)) 167 (0, 0)) := hb3
      have HF4 := Lib.hid (fr_below HF3.out (below_drew (Below.refl w3.heap.size w3)))
      clear s5 s6 f7 f8 s7 s8 hb3 HF3
      have HROW := Lib.hid (Kd.F_step HH.out.row (fun k ho hk => HF4.out.block k hk ho.2))
      have HIDX := Lib.hid (arr_index (V := V) (c := c) (i := m) HROW.out HM.out (l.getD m (⟨[], []⟩ : S44)) rfl)
      have s5 : w3.drew.cell? ⟨it, 5, none⟩ = some (arI V A n c) := (blk_cell hb4 5).trans rfl
      have s6 : w3.drew.cell? ⟨it, 6, none⟩ = some (.int .i64 (m : Int)) := (blk_cell hb4 6).trans rfl
      generalize hx : l.getD m (⟨[], []⟩ : S44) = x at *
      have HX := Lib.hid hx
      clear hx
      go_region_with ((with_reducible refine HIDX.out.mono ?_); rintro e w4 ⟨A1, c1, A2, c2, rfl, g1, g2, g3⟩; have hb5 := (g3.out.block it (blk_lt hb4)).trans hb4; have s7 := (blk_cell hb5 7).trans rfl; have s8 := (blk_cell hb5 8).trans rfl; have f7 := blk_frozen hb5 7; have f8 := blk_frozen hb5 8)
      all_goals (
        go_wp2
        go_end0
        have hff := fr_set (j := 8) (fr_set (j := 7) (fr_below HF4.out g3.out) (.slice A1 x.f0.length c1)) (.slice A2 x.f1.length c2)
        have hkb : ∀ k, k ≠ it → ((w4.setCell ⟨it, 7, none⟩ (.slice A1 x.f0.length c1)).setCell ⟨it, 8, none⟩ (.slice A2 x.f1.length c2)).heap[k]? = w4.heap[k]? := fun k hk => (Below.heap_setCell _ _ _ k hk).trans (Below.heap_setCell _ _ _ k hk)
        exact ⟨rfl, _, _, Lib.hid (HH.out.fr hff (blk_set (blk_set hb5 7 _) 8 _) ((ArKv.two (by rw [HN.out.1]; exact HM.out) HX.out g1.out g2.out).step (fun k hk _ => hkb k hk.2)) HH.out.rng HH.out.pl), Lib.hid hff⟩)
    · have z1 : (decide (0 ≤ pos) && decide (pos < (n : Int))) = false := by simp; omega
      rw [z1] at HVAL
      have HO : Hid (onL (kvS l) pos = false) := Lib.hid (by unfold onL; rw [kvS_len, HN.out.1]; exact z1)
      clear ho z1
      go_enter Tryz.func202, Tryz.ntmps202
      go_upto_region 0 with (fail)
      go_region
      go_wp2_with (go_at_call 200; (with_reducible refine HVAL.out.mono ?_); rintro e w3 ⟨rfl, hbv⟩; have hb3 := (hbv.out.block it (blk_lt HB1.out.1)).trans HB1.out.1; have HF3 := Lib.hid (fr_below HB1.out.2 hbv.out); have s5 := (blk_cell hb3 5).trans rfl; have s6 := (blk_cell hb3 6).trans rfl; have f7 := blk_frozen hb3 7; have f8 := blk_frozen hb3 8; have s7 := (blk_cell hb3 7).trans rfl; have s8 := (blk_cell hb3 8).trans rfl)
      go_end0
      have hff := fr_set (j := 8) (fr_set (j := 7) HF3.out (.slice none 0 0)) (.slice none 0 0)
      exact ⟨rfl, _, _, Lib.hid (HH.out.fr hff (blk_set (blk_set hb3 7 _) 8 _) (ArKv.nil _ _ HO.out) HH.out.rng HH.out.pl), Lib.hid hff⟩
end

end Go.Proofs.YtdkkkikcigjlhaaGreatDoor.Md

namespace Go.Proofs.YtdkkkikcigjlhaaGreatDoor.Md
open Go.RowKit Go.Proofs.YtdkkkikcigjlhaaGreatDoor.Con Go.Proofs.YtdkkkikcigjlhaaGreatDoor.Run Go.Proofs.YtdkkkikcigjlhaaGreatDoorW.PrintWords Go.Proofs.YtdkkkikcigjlhaaGreatDoorW.PrintMore Go.Proofs.YtdkkkikcigjlhaaGreatDoor.Cmp Go.Sort Go.RwLone Go.Proofs.YtdkkkikcigjlhaaGreatDoor.PFnMemMap

section
variable {V : Value} {l : List S44} {A : Option Addr} {n c it : Nat} {F : Nat → Prop} {w : World} {i pos pos2 : Int} {ka va : Value} {f : List Int → List Int → Int}

theorem onL_nil {L : List KV} (h : L.length = 0) (i : Int) : onL L i = false := by
  unfold onL
  rw [h]
  by_cases q : 0 ≤ i
  · simp [q]
  · simp [q]

theorem ArAt.same (h : ArAt V l A n c it F w i pos pos2 ka va) (hn : l.length = n) : onL (kvS l) pos = onL (kvS l) i ∧ keyL (kvS l) pos = keyL (kvS l) i ∧ valL (kvS l) pos = valL (kvS l) i := by
  by_cases h0 : n = 0
  · have e : (kvS l).length = 0 := by rw [kvS_len]; omega
    have e1 := onL_nil e pos
    have e2 := onL_nil e i
    exact ⟨e1.trans e2.symm, (keyL_off e1).1.trans (keyL_off e2).1.symm, (keyL_off e1).2.trans (keyL_off e2).2.symm⟩
  · have e := h.pl.1 (by omega)
    rw [e]
    exact ⟨rfl, rfl, rfl⟩

def KvTold (V : Value) (l : List S44) (A : Option Addr) (n c it : Nat) (F : Nat → Prop) (w : World) (i : Int) (k : List Int) (e : Ending) (w' : World) : Prop :=
  ∃ B d, e = .returned (.slice B k.length d) ∧ Hid (Kd.C (Kd.int .u8) w' B k.length k) ∧ Hid (Mv (ArSt V l A n c it) w F i w')

set_option maxHeartbeats 1600000 in
theorem arKey (hV : Cmpr V f) (hn : l.length = n) (hl : n ≤ 4294967296) (hb : ∀ x ∈ l, Byt x.f0) (h : ArAt V l A n c it F w i pos pos2 ka va) :
    Calls Tryz.prog 194 #[.pointer (some ⟨it, 0, none⟩)] w fun e w' => KvTold V l A n c it F w i (keyL (kvS l) i) e w' := by
  have HU := Lib.hid (upd_calls hV hn hl hb h)
  have HE := Lib.hid (h.same hn)
  have HO := Lib.hid h.own
  clear hV hn hl hb h
  go_enter Tryz.func194, Tryz.ntmps194
  go_wp2_with (go_at_call 202; (with_reducible refine HU.out.mono ?_); rintro e w1 ⟨rfl, k1, v1, hA, hF⟩; obtain ⟨B1, d1, B2, d2, rfl, rfl, g1, g2⟩ := hA.out.kv; have r7 : w1.cell? ⟨it, 7, none⟩ = some (.slice B1 (keyL (kvS l) pos).length d1) := (blk_cell hA.out.blk 7).trans rfl)
  go_ret
  have e1 := HE.out.2.1
  refine ⟨B1, d1, (by rw [← e1]; rfl), Lib.hid (by rw [← e1]; exact Kd.F_now g1), Lib.hid ⟨F, ⟨_, _, _, _, hA.out⟩, hF.out.mono (fun k hk => by rw [hk]; exact HO.out), fun k hk => .inl hk⟩⟩

set_option maxHeartbeats 1600000 in
theorem arValue (hV : Cmpr V f) (hn : l.length = n) (hl : n ≤ 4294967296) (hb : ∀ x ∈ l, Byt x.f0) (h : ArAt V l A n c it F w i pos pos2 ka va) :
    Calls Tryz.prog 201 #[.pointer (some ⟨it, 0, none⟩)] w fun e w' => KvTold V l A n c it F w i (valL (kvS l) i) e w' := by
  have HU := Lib.hid (upd_calls hV hn hl hb h)
  have HE := Lib.hid (h.same hn)
  have HO := Lib.hid h.own
  clear hV hn hl hb h
  go_enter Tryz.func201, Tryz.ntmps201
  go_wp2_with (go_at_call 202; (with_reducible refine HU.out.mono ?_); rintro e w1 ⟨rfl, k1, v1, hA, hF⟩; obtain ⟨B1, d1, B2, d2, rfl, rfl, g1, g2⟩ := hA.out.kv; have r8 : w1.cell? ⟨it, 8, none⟩ = some (.slice B2 (valL (kvS l) pos).length d2) := (blk_cell hA.out.blk 8).trans rfl)
  go_ret
  have e1 := HE.out.2.2
  refine ⟨B2, d2, (by rw [← e1]; rfl), Lib.hid (by rw [← e1]; exact Kd.F_now g2), Lib.hid ⟨F, ⟨_, _, _, _, hA.out⟩, hF.out.mono (fun k hk => by rw [hk]; exact HO.out), fun k hk => .inl hk⟩⟩

set_option maxRecDepth 100000 in
theorem arr_iter (hV : Cmpr V f) (hn : l.length = n) (hl : n ≤ 4294967296) (hb : ∀ x ∈ l, Byt x.f0) :
    Iter f 161 (.pointer (some ⟨it, 0, none⟩)) 193 195 196 197 199 200 192 194 201
      (kvS l) (ArSt V l A n c it) where
  n := by
    intro m hm w
    simp only [List.mem_cons, List.not_mem_nil, or_false] at hm
    rcases hm with rfl | rfl | rfl | rfl | rfl | rfl | rfl | rfl | rfl <;> kernel_rfl
  mF := fun w => by kernel_rfl
  mL := fun w => by kernel_rfl
  mN := fun w => by kernel_rfl
  mP := fun w => by kernel_rfl
  mS := fun w => by kernel_rfl
  mV := fun w => by kernel_rfl
  mE := fun w => by kernel_rfl
  mK := fun w => by kernel_rfl
  mU := fun w => by kernel_rfl
  c := by
    intro k hk args w
    simp only [List.mem_cons, List.not_mem_nil, or_false] at hk
    rcases hk with rfl | rfl | rfl | rfl | rfl | rfl | rfl | rfl | rfl
    · exact Go.MuLone.run_callFunc_enter Tryz.func193 (by kernel_rfl) rfl args w
    · exact Go.MuLone.run_callFunc_enter Tryz.func195 (by kernel_rfl) rfl args w
    · exact Go.MuLone.run_callFunc_enter Tryz.func196 (by kernel_rfl) rfl args w
    · exact Go.MuLone.run_callFunc_enter Tryz.func197 (by kernel_rfl) rfl args w
    · exact Go.MuLone.run_callFunc_enter Tryz.func199 (by kernel_rfl) rfl args w
    · exact Go.MuLone.run_callFunc_enter Tryz.func200 (by kernel_rfl) rfl args w
    · exact Go.MuLone.run_callFunc_enter Tryz.func192 (by kernel_rfl) rfl args w
    · exact Go.MuLone.run_callFunc_enter Tryz.func194 (by kernel_rfl) rfl args w
    · exact Go.MuLone.run_callFunc_enter Tryz.func201 (by kernel_rfl) rfl args w
  inside := by
    rintro w i F ⟨pos, pos2, ka, va, h⟩ k hk
    exact h.top k hk
  keep := by
    rintro w w1 i F ⟨pos, pos2, ka, va, h⟩ hk hs
    exact ⟨pos, pos2, ka, va, h.keep hk hs⟩
  first := by
    rintro w i F ⟨pos, pos2, ka, va, h⟩
    have hle : (kvS l).length = n := by rw [kvS_len, hn]
    refine h.told ?_ ?_ ?_ (baFirst (arr_barr hV hn hl hb (fun _ => True)) h.blk h.is)
    · split <;> omega
    · exact ⟨fun q => by rw [if_neg (by omega)], fun q => .inr rfl⟩
    · unfold onL
      rw [hle]
      by_cases q : 0 < n
      · simp [q]
      · simp [q]
  last := by
    rintro w i F ⟨pos, pos2, ka, va, h⟩
    have hle : (kvS l).length = n := by rw [kvS_len, hn]
    rw [hle]
    refine h.told ?_ ?_ ?_ (baLast (arr_barr hV hn hl hb (fun _ => True)) h.blk h.is)
    · split <;> omega
    · exact ⟨fun q => by rw [if_neg (by omega)], fun q => .inl (by omega)⟩
    · unfold onL
      rw [hle]
      by_cases q : 0 < n
      · rw [decide_eq_true q, decide_eq_true (by omega), decide_eq_true (by omega)]; rfl
      · rw [decide_eq_false q, decide_eq_false (by omega)]; rfl
  next := by
    rintro w i F ⟨pos, pos2, ka, va, h⟩
    have hle : (kvS l).length = n := by rw [kvS_len, hn]
    have hr := h.rng
    have hp := h.pl
    have e : mvL f (kvS l) i 2 [] = if i + 1 ≤ (n : Int) then i + 1 else (n : Int) := by rw [← hle]; rfl
    rw [e]
    refine h.told ?_ ?_ ?_ (baNext (arr_barr hV hn hl hb (fun _ => True)) h.blk h.is hr)
    · split <;> omega
    · refine ⟨fun q => ?_, fun q => .inr ?_⟩
      · rw [hp.1 q]
        split <;> split <;> omega
      · rcases hp.2 q with q2 | q2 <;> rw [q2] <;> split <;> omega
    · unfold onL
      rw [hle]
      by_cases q : 0 < n
      · rw [hp.1 q] at hr ⊢
        by_cases q2 : i + 1 < (n : Int)
        · rw [decide_eq_true q2, if_pos (by omega), decide_eq_true q2, decide_eq_true (by omega)]; rfl
        · rw [decide_eq_false q2, decide_eq_false (p := (if i + 1 ≤ (n : Int) then i + 1 else (n : Int)) < (n : Int)) (by split <;> omega), Bool.and_false]
      · have e1 : decide (pos + 1 < (n : Int)) = false := decide_eq_false (by omega)
        have e2 : decide ((if i + 1 ≤ (n : Int) then i + 1 else (n : Int)) < (n : Int)) = false := by
          rcases hp.2 (by omega) with q2 | q2 <;> rw [q2] <;> exact decide_eq_false (by split <;> omega)
        rw [e1, e2, Bool.and_false]
  prev := by
    rintro w i F ⟨pos, pos2, ka, va, h⟩
    have hle : (kvS l).length = n := by rw [kvS_len, hn]
    have hr := h.rng
    have hp := h.pl
    have e : mvL f (kvS l) i 3 [] = if -1 ≤ i - 1 then i - 1 else -1 := rfl
    rw [e]
    refine h.told ?_ ?_ ?_ (baPrev h.blk h.is ⟨hr.1, by omega⟩)
    · split <;> omega
    · refine ⟨fun q => ?_, fun q => .inl ?_⟩
      · rw [hp.1 q] at hr ⊢
        split <;> split <;> omega
      · rcases hp.2 q with q2 | q2 <;> rw [q2] <;> split <;> omega
    · unfold onL
      rw [hle]
      by_cases q : 0 < n
      · rw [hp.1 q] at hr ⊢
        by_cases q2 : 0 ≤ i - 1
        · rw [decide_eq_true q2, if_pos (by omega), decide_eq_true q2, decide_eq_true (by omega)]; rfl
        · rw [decide_eq_false q2, decide_eq_false (p := 0 ≤ (if -1 ≤ i - 1 then i - 1 else -1)) (by split <;> omega), Bool.false_and]
      · have e1 : decide (0 ≤ pos - 1) = false := decide_eq_false (by omega)
        have e2 : decide (0 ≤ (if -1 ≤ i - 1 then i - 1 else -1)) = false := by
          rcases hp.2 (by omega) with q2 | q2 <;> rw [q2] <;> rfl
        rw [e1, e2, Bool.false_and]
  seek := by
    rintro w i F ⟨pos, pos2, ka, va, h⟩ B d key hA hk hne
    have hle : (kvS l).length = n := by rw [kvS_len, hn]
    have hfl := findL_le f key (kvS l)
    rw [hle] at hfl
    refine h.told ?_ ?_ ?_ (baSeek (arr_barr hV hn hl hb (fun k => F k ∧ k ≠ it)) h.blk h.is h.row hA hk)
    · split <;> omega
    · exact ⟨fun q => by rw [if_neg (by omega)], fun q => .inr (by omega)⟩
    · unfold onL
      rw [hle, decide_eq_true (p := (0 : Int) ≤ (findL f key (kvS l) : Int)) (by omega), Bool.true_and]
      by_cases q : findL f key (kvS l) < n
      · rw [decide_eq_true q, decide_eq_true (by omega)]
      · rw [decide_eq_false q, decide_eq_false (by omega)]
  valid := by
    rintro w i F ⟨pos, pos2, ka, va, h⟩
    have hle : (kvS l).length = n := by rw [kvS_len, hn]
    refine (baValid (arr_barr hV hn hl hb (fun _ => True)) h.blk h.is).mono ?_
    rintro e w' ⟨rfl, hbl⟩
    refine ⟨_, rfl, Lib.hid ?_, Lib.hid ⟨F, ⟨pos, pos2, ka, va, h.keep (fun k hk => hbl.out.block k (h.top k hk)) hbl.out.size⟩, Fr.of_below hbl.out _, fun k hk => .inl hk⟩⟩
    rw [← (h.same hn).1]
    unfold onL
    rw [hle]
  error := by
    rintro w i F ⟨pos, pos2, ka, va, h⟩
    refine (baError h.blk h.is).mono ?_
    rintro e w' ⟨rfl, rfl⟩
    exact ⟨rfl, Lib.hid ⟨F, ⟨pos, pos2, ka, va, h⟩, Fr.refl _ _, fun k hk => .inl hk⟩⟩
  key := by
    rintro w i F ⟨pos, pos2, ka, va, h⟩
    exact arKey hV hn hl hb h
  value := by
    rintro w i F ⟨pos, pos2, ka, va, h⟩
    exact arValue hV hn hl hb h

set_option maxHeartbeats 1600000 in
theorem NewArrayIterator_calls (I : Value) (T : Nat) (u : Value) (w : World) (hI : I = .iface T u) :
    Calls Tryz.prog 62 #[I] w fun e w' => e = .returned (.iface 161 (.pointer (some ⟨w.heap.size, 0, none⟩))) ∧ w' = w.alloc (.cells (arCells I (-1) (-1) (.slice none 0 0) (.slice none 0 0)) 167) := by
  subst hI
  go_enter Tryz.func62, Tryz.ntmps62
  go_wp2
  go_ret
  exact ⟨rfl, rfl⟩

theorem ArSt.fresh {ok : Nat → Prop} (h : Kd.F k44 w ok A n l) (hn : l.length = n) (hok : ∀ k, ok k → k < w.heap.size) :
    ArSt V l A n c w.heap.size (w.alloc (.cells (arCells (arI V A n c) (-1) (-1) (.slice none 0 0) (.slice none 0 0)) 167)) (-1) (fun k => ok k ∨ k = w.heap.size) := by
  have hb := below_alloc (Below.refl w.heap.size w) (.cells (arCells (arI V A n c) (-1) (-1) (.slice none 0 0) (.slice none 0 0)) 167)
  refine ⟨-1, -1, _, _, blk_new w _, Kd.F_mono (Kd.F_below h hb) (fun k hk => ⟨.inl hk, by have := hok k hk; omega⟩), ArKv.nil _ _ (by unfold onL; rfl), ⟨by omega, by omega⟩, ⟨fun _ => rfl, fun _ => .inl rfl⟩, .inr rfl, fun k hk => ?_⟩
  rw [World.size_alloc]
  rcases hk with hk | rfl
  · have := hok k hk; omega
  · omega
end

end Go.Proofs.YtdkkkikcigjlhaaGreatDoor.Md
