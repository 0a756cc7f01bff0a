/- The reference's cursor, pure: a put, a range, what rises. impl's array: its methods. An iterator over a list behind an interface: the place's methods (basicArrayIterator). -/
import Derived.Test.YtdkkkikcigjlhaaGreatDoorMj10
import Derived.Test.YtdkkkikcigjlhaaGreatDoorMj29
set_option linter.unusedVariables false
set_option linter.unusedSimpArgs false
namespace Go.Proofs.YtdkkkikcigjlhaaGreatDoor.Md
open Go.RowKit Go.Proofs.YtdkkkikcigjlhaaGreatDoor.Con Go.Proofs.YtdkkkikcigjlhaaGreatDoor.Run Go.Proofs.YtdkkkikcigjlhaaGreatDoorW.PrintWords Go.Proofs.YtdkkkikcigjlhaaGreatDoorW.PrintMore Go.Proofs.YtdkkkikcigjlhaaGreatDoor.Cmp Go.Sort Go.RwLone Go.Proofs.YtdkkkikcigjlhaaGreatDoor.PFnMemMap

theorem putL_find {f : List Int → List Int → Int} (ho : Ord f) (key val : List Int) : ∀ L : List KV, putL f key val L = L.take (findL f key L) ++ (key, val) :: (if hitL f key L = true then L.drop (findL f key L + 1) else L.drop (findL f key L)) := by
  intro L
  induction L with
  | nil => rfl
  | cons x r ih =>
    by_cases q : f x.1 key < 0
    · have e1 : findL f key (x :: r) = findL f key r + 1 := by simp only [findL]; rw [if_pos q]
      have e2 : hitL f key (x :: r) = hitL f key r := by unfold hitL; rw [e1, List.getElem?_cons_succ]
      rw [e1, e2]
      simp only [putL, if_pos q, List.take_succ_cons, List.drop_succ_cons, List.cons_append, ih]
    · have e1 : findL f key (x :: r) = 0 := by simp only [findL]; rw [if_neg q]
      have e2 : hitL f key (x :: r) = decide (x.1 = key) := by unfold hitL; rw [e1]; rfl
      rw [e1, e2]
      simp only [putL, if_neg q]
      by_cases z : x.1 = key
      · rw [if_pos ((ho.zero _ _).2 z), if_pos (decide_eq_true z)]
        rfl
      · rw [if_neg (fun h => z ((ho.zero _ _).1 h)), if_neg (by simp [z])]
        rfl

theorem putC_kv {f : List Int → List Int → Int} (ho : Ord f) (key val : List Int) (l : List S36) : kvC (putC f key val l) = putL f key val (kvC l) := by
  rw [putL_find ho]
  unfold putC
  rw [kvC_app, kvC_app, kvC_take]
  split
  · rw [kvC_drop]; simp [kvC]
  · rw [kvC_drop]; simp [kvC]

def putsC (f : List Int → List Int → Int) (l : List S44) : List S36 := l.foldl (fun a x => putC f x.f0 x.f1 a) []
theorem putsC_snoc (f : List Int → List Int → Int) (l : List S44) (x : S44) : putsC f (l ++ [x]) = putC f x.f0 x.f1 (putsC f l) := by
  unfold putsC
  rw [List.foldl_append]
  rfl
theorem putsC_kv {f : List Int → List Int → Int} (ho : Ord f) (l : List S44) : kvC (putsC f l) = putsL f l := by
  have : ∀ (l : List S44) (a : List S36) (b : List KV), kvC a = b → kvC (l.foldl (fun a x => putC f x.f0 x.f1 a) a) = l.foldl (fun a x => putL f x.f0 x.f1 a) b := by
    intro l
    induction l with
    | nil => intro a b h; exact h
    | cons x r ih => intro a b h; exact ih _ _ (by rw [putC_kv ho, h])
  exact this l [] [] rfl
theorem putsC_len (f : List Int → List Int → Int) (l : List S44) : (putsC f l).length ≤ l.length := by
  have : ∀ (l : List S44) (a : List S36), (l.foldl (fun a x => putC f x.f0 x.f1 a) a).length ≤ a.length + l.length := by
    intro l
    induction l with
    | nil => intro a; exact Nat.le_refl _
    | cons x r ih =>
      intro a
      refine Nat.le_trans (ih _) ?_
      have h := putC_len f x.f0 x.f1 a
      show (putC f x.f0 x.f1 a).length + r.length ≤ _
      rw [List.length_cons]
      omega
  have h := this l []
  simpa [putsC] using h
theorem putsC_all {f : List Int → List Int → Int} {p : S36 → Prop} (l : List S44) (h : ∀ x ∈ l, p ⟨x.f0, x.f1⟩) : ∀ x ∈ putsC f l, p x := by
  have : ∀ (l : List S44) (L : List S36), (∀ x ∈ L, p x) → (∀ x ∈ l, p ⟨x.f0, x.f1⟩) → ∀ x ∈ l.foldl (fun a x => putC f x.f0 x.f1 a) L, p x := by
    intro l
    induction l with
    | nil => intro L hL _; exact hL
    | cons y r ih => intro L hL hl; exact ih _ (putC_all (hl y (by simp)) L hL) (fun z hz => hl z (by simp [hz]))
  exact this l [] (by simp) h

def kvS (l : List S44) : List KV := l.map fun x => (x.f0, x.f1)

def arrV (V : Value) (A : Option Addr) (n c : Nat) : Value := .agg #[V, .slice A n c]

set_option maxHeartbeats 1600000 in
theorem arr_len (V : Value) (A : Option Addr) (n c : Nat) (w : World) :
    Calls Tryz.prog 153 #[arrV V A n c] w fun e w' => e = .returned (.int .i64 (n : Int)) ∧ Below w.heap.size w w' := by
  unfold arrV
  go_enter Tryz.func153, Tryz.ntmps153
  go_wp2
  go_ret
  exact ⟨rfl, below_alloc (Below.refl _ _) _⟩

def IdxTold (ok : Nat → Prop) (x : S44) (w : World) (e : Ending) (w' : World) : Prop :=
  ∃ A1 c1 A2 c2, e = .returned (.tuple #[.slice A1 x.f0.length c1, .slice A2 x.f1.length c2]) ∧ Hid (Kd.F (Kd.int .u8) w' ok A1 x.f0.length x.f0) ∧ Hid (Kd.F (Kd.int .u8) w' ok A2 x.f1.length x.f1) ∧ Hid (Below w.heap.size w w')

set_option maxHeartbeats 3200000 in
set_option maxRecDepth 100000 in
theorem arr_index {V : Value} {A : Option Addr} {n c : Nat} {l : List S44} {ok : Nat → Prop} {w : World} {i : Nat} (h : Kd.F k44 w ok A n l) (hi : i < n) (x : S44) (hx : l.getD i (⟨[], []⟩ : S44) = x) :
    Calls Tryz.prog 250 #[arrV V A n c, .int .i64 (i : Int)] w fun e w' => IdxTold ok x w e w' := by
  have hb := below_alloc (Below.refl w.heap.size w) (.cells #[V, .slice A n c] 114)
  have hst := blk_new w (.cells #[V, .slice A n c] 114)
  have t1 : (w.alloc (.cells #[V, .slice A n c] 114)).cell? ⟨w.heap.size, 1, none⟩ = some (.slice A n c) := (blk_cell hst 1).trans rfl
  clear hst
  obtain ⟨ad, cs', rfl, hcl, hK, hcell, hokb⟩ := Kd.F_get (Kd.F_below h hb) (⟨[], []⟩ : S44) (i : Int) (Int.natCast_nonneg _) (by omega)
  obtain ⟨A1, c1, A2, c2, rfl, hl1, hF1, hl2, hF2⟩ := k44_openF hK
  have r0 := hcell 0 _ rfl
  have r1 := hcell 1 _ rfl
  rw [Int.toNat_natCast] at r0 r1 hF1 hF2
  have e2 : i * k44.sz + 0 = i * 2 := rfl
  have e3 : i * k44.sz + 1 = i * 2 + 1 := rfl
  rw [e2] at r0
  rw [e3, add_field ad (i * 2) 1 (by omega)] at r1
  rw [hx] at r0 r1 hF1 hF2
  have HF1 := Lib.hid hF1
  have HF2 := Lib.hid hF2
  have HB := Lib.hid hb
  clear hb hF1 hF2 hcell hK hcl e2 e3 hokb hl1 hl2 hx h
  have z0 : decide ((i : Int) < (n : Int)) = true := decide_eq_true (by omega)
  have z1 : decide ((0 : Int) ≤ (i : Int)) = true := decide_eq_true (by omega)
  unfold arrV
  go_enter Tryz.func250, Tryz.ntmps250
  go_upto_region 1 with (fail)
  generalize w.alloc (.cells #[V, .slice (some ad) n c] 114) = w1 at *
  refine still_all (by kernel_rfl) (by kernel_rfl) ?_
  intro W2 hW2
  have t1 := drew_cell hW2 t1
  have r0 := drew_cell hW2 r0
  have r1 := drew_cell hW2 r1
  have HB2 := Lib.hid (HB.out.trans ((drew_below hW2).mono HB.out.size))
  have HG1 := Lib.hid (Kd.F_below HF1.out (drew_below hW2))
  have HG2 := Lib.hid (Kd.F_below HF2.out (drew_below hW2))
  clear hW2
  repeat still_step
  refine wpStill_nil ?_
  go_wp2
  go_ret2
  exact ⟨_, _, _, _, rfl, HG1, HG2, HB2⟩

theorem findL_drop {f : List Int → List Int → Int} {key : List Int} {l : List S44} {j : Nat} (hj : j < l.length) {x : S44} (hx : l.getD j (⟨[], []⟩ : S44) = x) :
    findL f key (kvS (l.drop j)) = if f x.f0 key < 0 then findL f key (kvS (l.drop (j + 1))) + 1 else 0 := by
  have e : l.drop j = x :: l.drop (j + 1) := by
    rw [List.drop_eq_getElem_cons hj, ← hx]
    simp [List.getD_eq_getElem?_getD, List.getElem?_eq_getElem hj]
  rw [e]
  rfl

set_option maxHeartbeats 3200000 in
set_option maxRecDepth 100000 in
theorem arr_search {V : Value} {f : List Int → List Int → Int} {A B : Option Addr} {n c d : Nat} {l : List S44} {key : List Int} {ok : Nat → Prop} {w : World} (hV : Cmpr V f) (hn : l.length = n) (hl : n ≤ 4294967296) (hF : Kd.F k44 w ok A n l) (hb : ∀ x ∈ l, Byt x.f0) (hA : Kd.C (Kd.int .u8) w B key.length key) (hk : Byt key) :
    Calls Tryz.prog 251 #[arrV V A n c, .slice B key.length d] w fun e w' => e = .returned (.int .i64 (findL f key (kvS l) : Int)) ∧ Below w.heap.size w w' := by
  obtain ⟨T, u, K, rfl, hnil, hmeth, hcall, hcmp⟩ := hV.make
  have HF := Lib.hid hF
  have HN := Lib.hid (And.intro hn (And.intro hl (And.intro hb hk)))
  have HA := Lib.hid hA
  have HCMP := Lib.hid hcmp
  have HB0 := Lib.hid (below_alloc (Below.refl w.heap.size w) (.cells #[.iface T u, .slice A n c] 114))
  have HS0 := Lib.hid (blk_new w (.cells #[.iface T u, .slice A n c] 114))
  have HSZ := Lib.hid (World.size_alloc w (.cells #[.iface T u, .slice A n c] 114))
  clear hV hn hl hF hb hA hk hcmp
  unfold arrV
  go_enter Tryz.func251, Tryz.ntmps251
  go_wp2
  generalize w.alloc (.cells #[.iface T u, .slice A n c] 114) = w1 at *
  go_loopg [5] n (fun k v5 w' => ∃ j : Nat, v5 = .int .i64 (j : Int) ∧ Hid (j ≤ n ∧ n ≤ j + k) ∧ Hid (findL f key (kvS l) = j + findL f key (kvS (l.drop j))) ∧ Hid (Below w1.heap.size w1 w'))
  case atStart => exact ⟨0, rfl, Lib.hid ⟨Nat.zero_le _, by omega⟩, Lib.hid (by rw [List.drop_zero]; omega), Lib.hid (Below.refl _ _)⟩
  case round =>
    obtain ⟨j, rfl, HJ, HFI, HBL⟩ := hrel
    have hst := (HBL.out.block _ (by have := HSZ.out; omega)).trans HS0.out
    have t0 : wr.cell? ⟨w.heap.size, 0, none⟩ = some (.iface T u) := (blk_cell hst 0).trans rfl
    have t1 : wr.cell? ⟨w.heap.size, 1, none⟩ = some (.slice A n c) := (blk_cell hst 1).trans rfl
    clear hst
    by_cases hj : j < n
    · have hFr : Kd.F k44 wr ok A n l := Kd.F_below (Kd.F_below HF.out HB0.out) HBL.out
      obtain ⟨ad, cs', rfl, hcl, hK, hcell, hokb⟩ := Kd.F_get hFr (⟨[], []⟩ : S44) (j : Int) (Int.natCast_nonneg _) (by omega)
      obtain ⟨A1, c1, A2, c2, rfl, hl1, hF1, hl2, hF2⟩ := k44_openF hK
      have r0 := hcell 0 _ rfl
      rw [Int.toNat_natCast] at r0 hF1
      have e2 : j * k44.sz + 0 = j * 2 := rfl
      rw [e2] at r0
      have hmem : l.getD j (⟨[], []⟩ : S44) ∈ l := by
        rw [List.getD_eq_getElem?_getD, List.getElem?_eq_getElem (by rw [HN.out.1]; exact hj)]
        exact List.getElem_mem _
      have BY := Lib.hid (HN.out.2.2.1 _ hmem)
      have HFD := Lib.hid (findL_drop (f := f) (key := key) (l := l) (j := j) (by rw [HN.out.1]; exact hj) rfl)
      generalize l.getD j (⟨[], []⟩ : S44) = x at *
      have HF1 := Lib.hid hF1
      have z0 : decide ((j : Int) < (n : Int)) = true := decide_eq_true (by omega)
      have HJL := Lib.hid (And.intro hj HJ.out.2)
      have w1' : wrap64 ((j : Int) + 1) = (j : Int) + 1 := wz (by omega) (by have := HN.out.2.1; omega)
      clear hF1 hcell hK hcl e2 hmem hFr hokb hl1 hl2 hF2
      go_upto_region 2 with (fail)
      have D0 := cell_regrown t0
      have D1 := cell_regrown t1
      have D2 := cell_regrown r0
      have HW : ∀ d os, Hid (Below wr.heap.size wr (grow (redrawn wr d) os)) := fun d os => below_regrown wr d os
      have HK : ∀ W, Below wr.heap.size wr W → Hid (Kd.C (Kd.int .u8) W A1 x.f0.length x.f0) := fun W hW => Lib.hid (Kd.F_now (Kd.F_below HF1.out hW))
      have HA2 : ∀ W, Below wr.heap.size wr W → Hid (Kd.C (Kd.int .u8) W B key.length key) := fun W hW => Lib.hid (Kd.C_below (Kd.C_below (Kd.C_below HA.out HB0.out) HBL.out) hW)
      refine wp_region_quiet_below (by kernel_rfl) (by kernel_rfl) ?_
      repeat (go_big_quiet_step (with_reducible refine Calls.regrown_of (HCMP.out _ _ _ _ _ _ _ _ _ (HK _ (HW _ _).out).out (HA2 _ (HW _ _).out).out BY.out HN.out.2.2.2)))
      refine wpQuiet_nil ?_
      intro _ hw'
      obtain ⟨⟨dq, osq⟩, hw''⟩ := hw'
      subst hw''
      have HBW := Lib.hid (HBL.out.trans ((HW dq osq).out.mono HBL.out.size))
      clear D0 D1 D2 HW HK HA2
      generalize grow (redrawn wr dq) osq = W at *
      by_cases hneg : f x.f0 key < 0
      · have z1 : decide (f x.f0 key < 0) = true := decide_eq_true hneg
        have HNEG := Lib.hid hneg
        go_wp2
        go_roundg (gk - 1)
        case measure => exact round_less HJL.out.1 HJL.out.2
        case rel => exact ⟨j + 1, (by first | rfl | exact congrArg _ w1'), Lib.hid (round_next HJL.out.1 HJL.out.2), Lib.hid (by rw [HFI.out, HFD.out, if_pos (by have := HNEG.out; omega)]; omega), HBW⟩
      · have z1 : decide (f x.f0 key < 0) = false := decide_eq_false hneg
        have HNEG := Lib.hid hneg
        go_wp2
        go_ret
        exact ⟨ret_int (by rw [HFI.out, HFD.out, if_neg (by have := HNEG.out; omega)]; rfl), HB0.out.trans (HBW.out.mono HB0.out.size)⟩
    · have z0 : decide ((j : Int) < (n : Int)) = false := decide_eq_false (by omega)
      have hjn : j = l.length := by have := HJ.out.1; have := HN.out.1; omega
      have HJN := Lib.hid hjn
      clear hjn
      go_upto_region 2 with (fail)
      have D0 := cell_regrown t0
      have D1 := cell_regrown t1
      have HW : ∀ d os, Hid (Below wr.heap.size wr (grow (redrawn wr d) os)) := fun d os => below_regrown wr d os
      refine wp_region_quiet_below (by kernel_rfl) (by kernel_rfl) ?_
      repeat (go_big_quiet_step (fail))
      refine wpQuiet_nil ?_
      intro _ hw'
      obtain ⟨⟨dq, osq⟩, hw''⟩ := hw'
      subst hw''
      have HBW := Lib.hid (HBL.out.trans ((HW dq osq).out.mono HBL.out.size))
      clear D0 D1 HW
      generalize grow (redrawn wr dq) osq = W at *
      go_wp2
      go_ret
      exact ⟨ret_int (by rw [HFI.out, HJN.out, List.drop_length]; rfl), HB0.out.trans (HBW.out.mono HB0.out.size)⟩

structure BArr (T : Nat) (u : Value) (kN kS : Nat) (n : Nat) (find : List Int → Nat) (Rd : World → Prop) : Prop where
  nil : ∀ m, m ∈ ["Len", "Search"] → ∀ w, (nilAhead 418 T u m).run Tryz.prog w = .ok (some false) w
  mN : ∀ w, (method 418 T u "Len").run Tryz.prog w = .ok (kN, u) w
  mS : ∀ w, (method 418 T u "Search").run Tryz.prog w = .ok (kS, u) w
  c : ∀ k, k ∈ [kN, kS] → ∀ (args : Array Value) (w : World), (callFunc k args).run Tryz.prog w = .ok (.enter k args) w
  small : n ≤ 4294967296
  le : ∀ key, find key ≤ n
  len : ∀ w, Calls Tryz.prog kN #[u] w fun e w' => e = .returned (.int .i64 (n : Int)) ∧ Below w.heap.size w w'
  search : ∀ w (A : Option Addr) (c : Nat) (key : List Int), Rd w → Kd.C (Kd.int .u8) w A key.length key → Byt key → Calls Tryz.prog kS #[u, .slice A key.length c] w fun e w' => e = .returned (.int .i64 (find key : Int)) ∧ Below w.heap.size w w'
  below : ∀ w w', Rd w → Below w.heap.size w w' → Rd w'

structure BaIs (cs : Array Value) (T : Nat) (u : Value) (pos : Int) : Prop where
  c1 : cs[1]? = some (.bool false)
  c2 : cs[2]? = some (.iface T u)
  c3 : cs[3]? = some (.int .i64 pos)
  c4 : cs[4]? = some .nilIface

theorem BaIs.set {cs : Array Value} {T : Nat} {u : Value} {pos : Int} (h : BaIs cs T u pos) (p : Int) : BaIs (cs.setIfInBounds 3 (.int .i64 p)) T u p := by
  refine ⟨?_, ?_, ?_, ?_⟩
  · rw [Array.getElem?_setIfInBounds_ne (by decide)]; exact h.c1
  · rw [Array.getElem?_setIfInBounds_ne (by decide)]; exact h.c2
  · have hl : 3 < cs.size := by
      have := h.c3
      rw [Array.getElem?_eq_some_iff] at this
      exact this.1
    rw [Array.getElem?_setIfInBounds_self_of_lt hl]
  · rw [Array.getElem?_setIfInBounds_ne (by decide)]; exact h.c4

def BaTold (w : World) (it : Nat) (bt : TypeId) (cs : Array Value) (b : Bool) (pos : Int) (e : Ending) (w' : World) : Prop :=
  e = .returned (.bool b) ∧ Hid (Fr w w' (fun k => k = it)) ∧ Hid (w'.heap[it]? = some (.cells (cs.setIfInBounds 3 (.int .i64 pos)) bt (0, 0)))

theorem ba_told {w w1 : World} {it : Nat} {bt : TypeId} {cs : Array Value} {b b' : Bool} {pos : Int} (hf : Fr w w1 (fun k => k = it)) (hb : w1.heap[it]? = some (.cells cs bt (0, 0))) (e : b = b') : BaTold w it bt cs b' pos (.returned (.bool b)) (w1.setCell ⟨it, 3, none⟩ (.int .i64 pos)) :=
  ⟨by rw [e], Lib.hid (hf.setCell (p := ⟨it, 3, none⟩) (.inl rfl) _), Lib.hid (blk_set hb 3 _)⟩

theorem set_twice {cs : Array Value} {i : Nat} {a b : Value} : (cs.setIfInBounds i a).setIfInBounds i b = cs.setIfInBounds i b := by
  apply Array.toList_inj.1
  simp [Array.toList_setIfInBounds, List.set_set]

section
variable {T : Nat} {u : Value} {kN kS n : Nat} {find : List Int → Nat} {Rd : World → Prop} {w : World} {it : Nat} {bt : TypeId} {cs : Array Value} {pos : Int}

set_option maxHeartbeats 3200000 in
theorem baFirst (B : BArr T u kN kS n find Rd) (hb : w.heap[it]? = some (.cells cs bt (0, 0))) (hc : BaIs cs T u pos) :
    Calls Tryz.prog 193 #[.pointer (some ⟨it, 0, none⟩)] w fun e w' => BaTold w it bt cs (decide (0 < n)) (if n = 0 then -1 else 0) e w' := by
  have n1 := B.nil "Len" (by simp)
  have m1 := B.mN
  have q1 := B.c kN (by simp)
  have r1 := (blk_cell hb 1).trans hc.c1
  have r2 := (blk_cell hb 2).trans hc.c2
  have r3 := (blk_cell hb 3).trans hc.c3
  have fz := blk_frozen hb 3
  by_cases h0 : n = 0
  · rw [if_pos h0, decide_eq_false (show ¬ 0 < n by omega)]
    have z0 : ((n : Int) == 0) = true := by rw [beq_iff_eq]; omega
    have H0 := Lib.hid h0
    clear h0
    go_enter Tryz.func193, Tryz.ntmps193
    go_wp2_with (first
      | (go_at_call 174; (with_reducible refine (Released_calls r1).mono ?_); rintro e wx ⟨rfl, rfl⟩)
      | ((with_reducible refine (B.len _).mono ?_); rintro e w1 ⟨rfl, hbl⟩; have hb1 := (hbl.block it (blk_lt hb)).trans hb; have s3 := (blk_cell hb1 3).trans hc.c3; have s2 := (blk_cell hb1 2).trans hc.c2; have s1 := (blk_cell hb1 1).trans hc.c1; have t3 := blk_frozen hb1 3; have hf1 := Fr.of_below hbl (fun k => k = it)))
    go_ret
    exact ba_told hf1 hb1 rfl
  · rw [if_neg h0, decide_eq_true (show 0 < n by omega)]
    have z0 : ((n : Int) == 0) = false := by rw [beq_eq_false_iff_ne]; omega
    have H0 := Lib.hid h0
    have hsm := B.small
    have w1 : wrap64 ((n : Int) - 1) = (n : Int) - 1 := by unfold wrap64; omega
    clear h0
    go_enter Tryz.func193, Tryz.ntmps193
    go_wp2_with (first
      | (go_at_call 174; (with_reducible refine (Released_calls r1).mono ?_); rintro e wx ⟨rfl, rfl⟩)
      | ((with_reducible refine (B.len _).mono ?_); rintro e w1 ⟨rfl, hbl⟩; have hb1 := (hbl.block it (blk_lt hb)).trans hb; have s3 := (blk_cell hb1 3).trans hc.c3; have s2 := (blk_cell hb1 2).trans hc.c2; have s1 := (blk_cell hb1 1).trans hc.c1; have t3 := blk_frozen hb1 3; have hf1 := Fr.of_below hbl (fun k => k = it)))
    go_ret
    exact ba_told hf1 hb1 rfl

set_option maxHeartbeats 3200000 in
theorem baLast (B : BArr T u kN kS n find Rd) (hb : w.heap[it]? = some (.cells cs bt (0, 0))) (hc : BaIs cs T u pos) :
    Calls Tryz.prog 195 #[.pointer (some ⟨it, 0, none⟩)] w fun e w' => BaTold w it bt cs (decide (0 < n)) (if n = 0 then 0 else (n : Int) - 1) e w' := by
  have n1 := B.nil "Len" (by simp)
  have m1 := B.mN
  have q1 := B.c kN (by simp)
  have r1 := (blk_cell hb 1).trans hc.c1
  have r2 := (blk_cell hb 2).trans hc.c2
  have r3 := (blk_cell hb 3).trans hc.c3
  have fz := blk_frozen hb 3
  by_cases h0 : n = 0
  · rw [if_pos h0, decide_eq_false (show ¬ 0 < n by omega)]
    have z0 : ((n : Int) == 0) = true := by rw [beq_iff_eq]; omega
    have H0 := Lib.hid h0
    clear h0
    go_enter Tryz.func195, Tryz.ntmps195
    go_wp2_with (first
      | (go_at_call 174; (with_reducible refine (Released_calls r1).mono ?_); rintro e wx ⟨rfl, rfl⟩)
      | ((with_reducible refine (B.len _).mono ?_); rintro e w1 ⟨rfl, hbl⟩; have hb1 := (hbl.block it (blk_lt hb)).trans hb; have s3 := (blk_cell hb1 3).trans hc.c3; have s2 := (blk_cell hb1 2).trans hc.c2; have s1 := (blk_cell hb1 1).trans hc.c1; have t3 := blk_frozen hb1 3; have hf1 := Fr.of_below hbl (fun k => k = it)))
    go_ret
    exact ba_told hf1 hb1 rfl
  · rw [if_neg h0, decide_eq_true (show 0 < n by omega)]
    have z0 : ((n : Int) == 0) = false := by rw [beq_eq_false_iff_ne]; omega
    have H0 := Lib.hid h0
    have hsm := B.small
    have w1 : wrap64 ((n : Int) - 1) = (n : Int) - 1 := by unfold wrap64; omega
    clear h0
    go_enter Tryz.func195, Tryz.ntmps195
    go_wp2_with (first
      | (go_at_call 174; (with_reducible refine (Released_calls r1).mono ?_); rintro e wx ⟨rfl, rfl⟩)
      | ((with_reducible refine (B.len _).mono ?_); rintro e w1 ⟨rfl, hbl⟩; have hb1 := (hbl.block it (blk_lt hb)).trans hb; have s3 := (blk_cell hb1 3).trans hc.c3; have s2 := (blk_cell hb1 2).trans hc.c2; have s1 := (blk_cell hb1 1).trans hc.c1; have t3 := blk_frozen hb1 3; have hf1 := Fr.of_below hbl (fun k => k = it)))
    go_ret
    exact ba_told hf1 hb1 rfl

set_option maxHeartbeats 3200000 in
theorem baNext (B : BArr T u kN kS n find Rd) (hb : w.heap[it]? = some (.cells cs bt (0, 0))) (hc : BaIs cs T u pos) (hp : -1 ≤ pos ∧ pos ≤ n) :
    Calls Tryz.prog 196 #[.pointer (some ⟨it, 0, none⟩)] w fun e w' => BaTold w it bt cs (decide (pos + 1 < (n : Int))) (if pos + 1 < (n : Int) then pos + 1 else (n : Int)) e w' := by
  have n1 := B.nil "Len" (by simp)
  have m1 := B.mN
  have q1 := B.c kN (by simp)
  have r1 := (blk_cell hb 1).trans hc.c1
  have r2 := (blk_cell hb 2).trans hc.c2
  have r3 := (blk_cell hb 3).trans hc.c3
  have fz := blk_frozen hb 3
  have hsm := B.small
  have wz1 : wrap64 (pos + 1) = pos + 1 := by unfold wrap64; omega
  have hb9 : (w.setCell ⟨it, 3, none⟩ (.int .i64 (pos + 1))).heap[it]? = some (.cells (cs.setIfInBounds 3 (.int .i64 (pos + 1))) bt (0, 0)) := blk_set hb 3 _
  have hc9 := hc.set (pos + 1)
  have u2 := (blk_cell hb9 2).trans hc9.c2
  have u3 := (blk_cell hb9 3).trans hc9.c3
  have hf9 := (Fr.refl w (fun k => k = it)).setCell (p := ⟨it, 3, none⟩) (.inl rfl) (.int .i64 (pos + 1))
  by_cases h0 : pos + 1 < (n : Int)
  · rw [if_pos h0, decide_eq_true h0]
    have z0 : decide (pos + 1 < (n : Int)) = true := decide_eq_true h0
    have z1 : decide ((n : Int) ≤ pos + 1) = false := decide_eq_false (by omega)
    have H0 := Lib.hid h0
    clear h0
    go_enter Tryz.func196, Tryz.ntmps196
    go_wp2_with (first
      | (go_at_call 174; (with_reducible refine (Released_calls r1).mono ?_); rintro e wx ⟨rfl, rfl⟩)
      | ((with_reducible refine (B.len _).mono ?_); rintro e w1 ⟨rfl, hbl⟩; have hb1 := (hbl.block it (blk_lt hb9)).trans hb9; have s3 := (blk_cell hb1 3).trans hc9.c3; have s2 := (blk_cell hb1 2).trans hc9.c2; have s1 := (blk_cell hb1 1).trans hc9.c1; have t3 := blk_frozen hb1 3))
    go_ret
    exact ⟨rfl, Lib.hid (hf9.then_ (Fr.of_below hbl (fun _ => False)) (fun k hk => hk.elim)), Lib.hid hb1⟩
  · rw [if_neg h0, decide_eq_false h0]
    have z0 : decide (pos + 1 < (n : Int)) = false := decide_eq_false h0
    have z1 : decide ((n : Int) ≤ pos + 1) = true := decide_eq_true (by omega)
    have H0 := Lib.hid h0
    clear h0
    go_enter Tryz.func196, Tryz.ntmps196
    go_wp2_with (first
      | (go_at_call 174; (with_reducible refine (Released_calls r1).mono ?_); rintro e wx ⟨rfl, rfl⟩)
      | ((with_reducible refine (B.len _).mono ?_); rintro e w1 ⟨rfl, hbl⟩; have hb1 := (hbl.block it (blk_lt hb9)).trans hb9; have s3 := (blk_cell hb1 3).trans hc9.c3; have s2 := (blk_cell hb1 2).trans hc9.c2; have s1 := (blk_cell hb1 1).trans hc9.c1; have t3 := blk_frozen hb1 3))
    go_ret
    refine ⟨rfl, Lib.hid ((hf9.then_ (Fr.of_below hbl (fun _ => False)) (fun k hk => hk.elim)).setCell (p := ⟨it, 3, none⟩) (.inl rfl) _), Lib.hid ?_⟩
    have := blk_set hb1 3 (.int .i64 (n : Int))
    rw [set_twice] at this
    exact this

set_option maxHeartbeats 3200000 in
theorem baPrev (hb : w.heap[it]? = some (.cells cs bt (0, 0))) (hc : BaIs cs T u pos) (hp : -1 ≤ pos ∧ pos ≤ 4294967296) :
    Calls Tryz.prog 197 #[.pointer (some ⟨it, 0, none⟩)] w fun e w' => BaTold w it bt cs (decide (0 ≤ pos - 1)) (if 0 ≤ pos - 1 then pos - 1 else -1) e w' := by
  have r1 := (blk_cell hb 1).trans hc.c1
  have r3 := (blk_cell hb 3).trans hc.c3
  have fz := blk_frozen hb 3
  have wz1 : wrap64 (pos - 1) = pos - 1 := by unfold wrap64; omega
  have hb9 : (w.setCell ⟨it, 3, none⟩ (.int .i64 (pos - 1))).heap[it]? = some (.cells (cs.setIfInBounds 3 (.int .i64 (pos - 1))) bt (0, 0)) := blk_set hb 3 _
  have hc9 := hc.set (pos - 1)
  have u3 := (blk_cell hb9 3).trans hc9.c3
  have uf := blk_frozen hb9 3
  have hf9 := (Fr.refl w (fun k => k = it)).setCell (p := ⟨it, 3, none⟩) (.inl rfl) (.int .i64 (pos - 1))
  by_cases h0 : 0 ≤ pos - 1
  · rw [if_pos h0, decide_eq_true h0]
    have z1 : decide (pos - 1 < 0) = false := decide_eq_false (by omega)
    have H0 := Lib.hid h0
    clear h0
    go_enter Tryz.func197, Tryz.ntmps197
    go_wp2_with (go_at_call 174; (with_reducible refine (Released_calls r1).mono ?_); rintro e wx ⟨rfl, rfl⟩)
    go_ret
    exact ⟨rfl, Lib.hid hf9, Lib.hid hb9⟩
  · rw [if_neg h0, decide_eq_false h0]
    have z1 : decide (pos - 1 < 0) = true := decide_eq_true (by omega)
    have H0 := Lib.hid h0
    clear h0
    go_enter Tryz.func197, Tryz.ntmps197
    go_wp2_with (go_at_call 174; (with_reducible refine (Released_calls r1).mono ?_); rintro e wx ⟨rfl, rfl⟩)
    go_ret
    refine ⟨rfl, Lib.hid (hf9.setCell (p := ⟨it, 3, none⟩) (.inl rfl) _), Lib.hid ?_⟩
    have := blk_set hb9 3 (.int .i64 (-1))
    rw [set_twice] at this
    exact this

set_option maxHeartbeats 3200000 in
theorem baSeek (B : BArr T u kN kS n find Rd) (hb : w.heap[it]? = some (.cells cs bt (0, 0))) (hc : BaIs cs T u pos) (hr : Rd w) {A : Option Addr} {ca : Nat} {key : List Int} (hA : Kd.C (Kd.int .u8) w A key.length key) (hk : Byt key) :
    Calls Tryz.prog 199 #[.pointer (some ⟨it, 0, none⟩), .slice A key.length ca] w fun e w' => BaTold w it bt cs (decide (find key < n)) (if n = 0 then 0 else (find key : Int)) e w' := by
  have n1 := B.nil "Len" (by simp)
  have m1 := B.mN
  have q1 := B.c kN (by simp)
  have r1 := (blk_cell hb 1).trans hc.c1
  have r2 := (blk_cell hb 2).trans hc.c2
  have r3 := (blk_cell hb 3).trans hc.c3
  have fz := blk_frozen hb 3
  have n2 := B.nil "Search" (by simp)
  have m2 := B.mS
  have q2 := B.c kS (by simp)
  have HA := Lib.hid (And.intro hA (And.intro hk hr))
  clear hA hk hr
  by_cases h0 : n = 0
  · rw [if_pos h0, decide_eq_false (show ¬ find key < n by omega)]
    have z0 : ((n : Int) == 0) = true := by rw [beq_iff_eq]; omega
    have H0 := Lib.hid h0
    clear h0
    go_enter Tryz.func199, Tryz.ntmps199
    go_wp2_with (first
      | (go_at_call 174; (with_reducible refine (Released_calls r1).mono ?_); rintro e wx ⟨rfl, rfl⟩)
      | ((with_reducible refine (B.len _).mono ?_); rintro e w1 ⟨rfl, hbl⟩; have hb1 := (hbl.block it (blk_lt hb)).trans hb; have s3 := (blk_cell hb1 3).trans hc.c3; have s2 := (blk_cell hb1 2).trans hc.c2; have s1 := (blk_cell hb1 1).trans hc.c1; have t3 := blk_frozen hb1 3; have hf1 := Fr.of_below hbl (fun k => k = it)))
    go_ret
    exact ba_told hf1 hb1 rfl
  · rw [if_neg h0]
    have z0 : ((n : Int) == 0) = false := by rw [beq_eq_false_iff_ne]; omega
    have H0 := Lib.hid h0
    clear h0
    by_cases h1 : find key < n
    · rw [decide_eq_true h1]
      have z1 : decide ((n : Int) ≤ (find key : Int)) = false := decide_eq_false (by omega)
      have H1 := Lib.hid h1
      go_enter Tryz.func199, Tryz.ntmps199
      go_wp2_with (first
        | (go_at_call 174; (with_reducible refine (Released_calls r1).mono ?_); rintro e wx ⟨rfl, rfl⟩)
        | ((with_reducible refine (B.len _).mono ?_); rintro e w1 ⟨rfl, hbl⟩; have hb1 := (hbl.block it (blk_lt hb)).trans hb; have s3 := (blk_cell hb1 3).trans hc.c3; have s2 := (blk_cell hb1 2).trans hc.c2; have s1 := (blk_cell hb1 1).trans hc.c1; have t3 := blk_frozen hb1 3; have hf1 := Fr.of_below hbl (fun k => k = it))
        | ((with_reducible refine (B.search _ _ _ _ (B.below _ _ HA.out.2.2 hbl) (Kd.C_below HA.out.1 hbl) HA.out.2.1).mono ?_); rintro e w2 ⟨rfl, hbl2⟩; have hb2 := (hbl2.block it (blk_lt hb1)).trans hb1; have x3 := (blk_cell hb2 3).trans hc.c3; have y3 := blk_frozen hb2 3; have hf2 := hf1.then_ (Fr.of_below hbl2 (fun _ => False)) (fun k hk => hk.elim)))
      go_ret
      exact ba_told hf2 hb2 rfl
    · rw [decide_eq_false h1]
      have z1 : decide ((n : Int) ≤ (find key : Int)) = true := decide_eq_true (by omega)
      have H1 := Lib.hid h1
      go_enter Tryz.func199, Tryz.ntmps199
      go_wp2_with (first
        | (go_at_call 174; (with_reducible refine (Released_calls r1).mono ?_); rintro e wx ⟨rfl, rfl⟩)
        | ((with_reducible refine (B.len _).mono ?_); rintro e w1 ⟨rfl, hbl⟩; have hb1 := (hbl.block it (blk_lt hb)).trans hb; have s3 := (blk_cell hb1 3).trans hc.c3; have s2 := (blk_cell hb1 2).trans hc.c2; have s1 := (blk_cell hb1 1).trans hc.c1; have t3 := blk_frozen hb1 3; have hf1 := Fr.of_below hbl (fun k => k = it))
        | ((with_reducible refine (B.search _ _ _ _ (B.below _ _ HA.out.2.2 hbl) (Kd.C_below HA.out.1 hbl) HA.out.2.1).mono ?_); rintro e w2 ⟨rfl, hbl2⟩; have hb2 := (hbl2.block it (blk_lt hb1)).trans hb1; have x3 := (blk_cell hb2 3).trans hc.c3; have y3 := blk_frozen hb2 3; have hf2 := hf1.then_ (Fr.of_below hbl2 (fun _ => False)) (fun k hk => hk.elim)))
      go_ret
      exact ba_told hf2 hb2 rfl

theorem Rel_below (h : w.cell? ⟨it, 1, none⟩ = some (.bool false)) : Calls Tryz.prog 174 #[.pointer (some ⟨it, 0, none⟩)] w fun e w' => e = .returned (.bool false) ∧ Below w.heap.size w w' :=
  (Released_calls h).mono (by rintro e w' ⟨rfl, rfl⟩; exact ⟨rfl, Below.refl _ _⟩)

set_option maxHeartbeats 3200000 in
set_option maxRecDepth 100000 in
theorem baValid (B : BArr T u kN kS n find Rd) (hb : w.heap[it]? = some (.cells cs bt (0, 0))) (hc : BaIs cs T u pos) :
    Calls Tryz.prog 200 #[.pointer (some ⟨it, 0, none⟩)] w fun e w' => e = .returned (.bool (decide (0 ≤ pos) && decide (pos < (n : Int)))) ∧ Hid (Below w.heap.size w w') := by
  have n1 := B.nil "Len" (by simp)
  have m1 := B.mN
  have q1 := B.c kN (by simp)
  have r1 := (blk_cell hb 1).trans hc.c1
  have r2 := (blk_cell hb 2).trans hc.c2
  have r3 := (blk_cell hb 3).trans hc.c3
  have fz := blk_frozen hb 3
  have HLEN := Lib.hid B.len
  by_cases h0 : 0 ≤ pos
  · have z0 : decide (0 ≤ pos) = true := decide_eq_true h0
    by_cases h1 : pos < (n : Int)
    · rw [decide_eq_true h0, decide_eq_true h1]
      have z1 : decide (pos < (n : Int)) = true := decide_eq_true h1
      go_enter Tryz.func200, Tryz.ntmps200
      go_upto_region 1 with (fail)
      have D1 := cell_regrown r1
      have D2 := cell_regrown r2
      have D3 := cell_regrown r3
      refine wp_region_quiet_below (by kernel_rfl) (by kernel_rfl) ?_
      repeat (go_big_quiet_step (first | (with_reducible refine Calls.regrown_of (HLEN.out _)) | (with_reducible refine Calls.regrown_of (Rel_below (D1 _ _)))))
      refine wpQuiet_nil ?_
      intro _ hw'
      obtain ⟨⟨dq, osq⟩, hw2⟩ := hw'
      subst hw2
      have HBW : Hid (Below w.heap.size w (grow (redrawn w dq) osq)) := below_regrown w dq osq
      clear D1 D2 D3
      generalize grow (redrawn w dq) osq = W at *
      go_wp2
      go_ret
      exact ⟨rfl, HBW⟩
    · rw [decide_eq_true h0, decide_eq_false h1]
      have z1 : decide (pos < (n : Int)) = false := decide_eq_false h1
      go_enter Tryz.func200, Tryz.ntmps200
      go_upto_region 1 with (fail)
      have D1 := cell_regrown r1
      have D2 := cell_regrown r2
      have D3 := cell_regrown r3
      refine wp_region_quiet_below (by kernel_rfl) (by kernel_rfl) ?_
      repeat (go_big_quiet_step (first | (with_reducible refine Calls.regrown_of (HLEN.out _)) | (with_reducible refine Calls.regrown_of (Rel_below (D1 _ _)))))
      refine wpQuiet_nil ?_
      intro _ hw'
      obtain ⟨⟨dq, osq⟩, hw2⟩ := hw'
      subst hw2
      have HBW : Hid (Below w.heap.size w (grow (redrawn w dq) osq)) := below_regrown w dq osq
      clear D1 D2 D3
      generalize grow (redrawn w dq) osq = W at *
      go_wp2
      go_ret
      exact ⟨rfl, HBW⟩
  · rw [decide_eq_false h0]
    have z0 : decide (0 ≤ pos) = false := decide_eq_false h0
    go_enter Tryz.func200, Tryz.ntmps200
    go_upto_region 1 with (fail)
    have D1 := cell_regrown r1
    have D2 := cell_regrown r2
    have D3 := cell_regrown r3
    refine wp_region_quiet_below (by kernel_rfl) (by kernel_rfl) ?_
    repeat (go_big_quiet_step (first | (with_reducible refine Calls.regrown_of (HLEN.out _)) | (with_reducible refine Calls.regrown_of (Rel_below (D1 _ _)))))
    refine wpQuiet_nil ?_
    intro _ hw'
    obtain ⟨⟨dq, osq⟩, hw2⟩ := hw'
    subst hw2
    have HBW : Hid (Below w.heap.size w (grow (redrawn w dq) osq)) := below_regrown w dq osq
    clear D1 D2 D3
    generalize grow (redrawn w dq) osq = W at *
    go_wp2
    go_ret
    exact ⟨rfl, HBW⟩

set_option maxHeartbeats 3200000 in
theorem baError (hb : w.heap[it]? = some (.cells cs bt (0, 0))) (hc : BaIs cs T u pos) :
    Calls Tryz.prog 192 #[.pointer (some ⟨it, 0, none⟩)] w fun e w' => e = .returned .nilIface ∧ w = w' := by
  have r4 := (blk_cell hb 4).trans hc.c4
  go_enter Tryz.func192, Tryz.ntmps192
  go_wp2
  go_ret
  exact ⟨rfl, rfl⟩
end

end Go.Proofs.YtdkkkikcigjlhaaGreatDoor.Md
