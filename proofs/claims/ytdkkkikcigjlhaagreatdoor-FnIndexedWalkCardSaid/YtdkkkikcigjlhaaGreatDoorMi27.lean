/- impl's lists of pairs: their methods. An iterator that goes through lists by an index: its cells; its data is set, cleared. Lists one behind the other: places in them, pure. -/
import Derived.Test.YtdkkkikcigjlhaaGreatDoorMi25
import Derived.Test.YtdkkkikcigjlhaaGreatDoorMi09
set_option linter.unusedVariables false
set_option linter.unusedSimpArgs false
namespace Go.Proofs.YtdkkkikcigjlhaaGreatDoor.Md
open Go.RowKit Go.Proofs.YtdkkkikcigjlhaaGreatDoor.Con Go.Proofs.YtdkkkikcigjlhaaGreatDoor.Run Go.Proofs.YtdkkkikcigjlhaaGreatDoorW.PrintWords Go.Proofs.YtdkkkikcigjlhaaGreatDoorW.PrintMore Go.Proofs.YtdkkkikcigjlhaaGreatDoor.Cmp Go.Sort Go.RwLone Go.Proofs.YtdkkkikcigjlhaaGreatDoor.PFnMemMap

def lastK (l : List S44) : List Int := (l.getD (l.length - 1) (⟨[], []⟩ : S44)).f0
def findLL (f : List Int → List Int → Int) (key : List Int) : List (List S44) → Nat
  | [] => 0
  | x :: r => if x.length = 0 ∨ f (lastK x) key < 0 then findLL f key r + 1 else 0
theorem findLL_le (f : List Int → List Int → Int) (key : List Int) : ∀ LL : List (List S44), findLL f key LL ≤ LL.length := by
  intro LL
  induction LL with
  | nil => exact Nat.le_refl _
  | cons x r ih =>
    unfold findLL
    split
    · simp only [List.length_cons]; omega
    · exact Nat.zero_le _
theorem findLL_drop {f : List Int → List Int → Int} {key : List Int} {LL : List (List S44)} {j : Nat} (hj : j < LL.length) {x : List S44} (hx : LL.getD j [] = x) :
    findLL f key (LL.drop j) = if x.length = 0 ∨ f (lastK x) key < 0 then findLL f key (LL.drop (j + 1)) + 1 else 0 := by
  have e : LL.drop j = x :: LL.drop (j + 1) := by
    rw [List.drop_eq_getElem_cons hj, ← hx]
    simp [List.getD_eq_getElem?_getD, List.getElem?_eq_getElem hj]
  rw [e]
  rfl

set_option maxHeartbeats 1600000 in
theorem lists_len (V : Value) (A : Option Addr) (n c : Nat) (w : World) :
    Calls Tryz.prog 154 #[arrV V A n c] w fun e w' => e = .returned (.int .i64 (n : Int)) ∧ Below w.heap.size w w' := by
  unfold arrV
  go_enter Tryz.func154, Tryz.ntmps154
  go_wp2
  go_ret
  exact ⟨rfl, below_alloc (Below.refl _ _) _⟩

set_option maxHeartbeats 3200000 in
set_option maxRecDepth 100000 in
theorem lists_search {V : Value} {f : List Int → List Int → Int} {A B : Option Addr} {n c d : Nat} {LL : List (List S44)} {key : List Int} {ok : Nat → Prop} {w : World} (hV : Cmpr V f) (hn : LL.length = n) (hl : n ≤ 4294967296) (hF : Kd.F kLL w ok A n LL) (hb : ∀ l ∈ LL, l.length ≤ 4294967296 ∧ ∀ x ∈ l, Byt x.f0) (hA : Kd.C (Kd.int .u8) w B key.length key) (hk : Byt key) :
    Calls Tryz.prog 253 #[arrV V A n c, .slice B key.length d] w fun e w' => e = .returned (.int .i64 (findLL f key LL : Int)) ∧ Below w.heap.size w w' := by
  obtain ⟨T, u, K, rfl, hnil, hmeth, hcall, hcmp⟩ := hV.make
  have HF := Lib.hid hF
  have HN := Lib.hid (And.intro hn (And.intro hl (And.intro hb hk)))
  have HA := Lib.hid hA
  have HCMP := Lib.hid hcmp
  have HB0 := Lib.hid (below_alloc (Below.refl w.heap.size w) (.cells #[.iface T u, .slice A n c] 133))
  have HS0 := Lib.hid (blk_new w (.cells #[.iface T u, .slice A n c] 133))
  have HSZ := Lib.hid (World.size_alloc w (.cells #[.iface T u, .slice A n c] 133))
  clear hV hn hl hF hb hA hk hcmp
  unfold arrV
  go_enter Tryz.func253, Tryz.ntmps253
  go_wp2
  generalize w.alloc (.cells #[.iface T u, .slice A n c] 133) = w1 at *
  go_loopg [5] n (fun k v5 w' => ∃ j : Nat, v5 = .int .i64 (j : Int) ∧ Hid (j ≤ n ∧ n ≤ j + k) ∧ Hid (findLL f key LL = j + findLL f key (LL.drop j)) ∧ Hid (Below w1.heap.size w1 w'))
  case atStart => exact ⟨0, rfl, Lib.hid ⟨Nat.zero_le _, by omega⟩, Lib.hid (by rw [List.drop_zero]; omega), Lib.hid (Below.refl _ _)⟩
  case round =>
    obtain ⟨j, rfl, HJ, HFI, HBL⟩ := hrel
    have hst := (HBL.out.block _ (by have := HSZ.out; omega)).trans HS0.out
    have t0 : wr.cell? ⟨w.heap.size, 0, none⟩ = some (.iface T u) := (blk_cell hst 0).trans rfl
    have t1 : wr.cell? ⟨w.heap.size, 1, none⟩ = some (.slice A n c) := (blk_cell hst 1).trans rfl
    clear hst
    by_cases hj : j < n
    · have hFr : Kd.F kLL wr ok A n LL := Kd.F_below (Kd.F_below HF.out HB0.out) HBL.out
      obtain ⟨ad, A1, c1, rfl, r0, hl1, hF1⟩ := LL_at hFr hj rfl
      have hmem : LL.getD j [] ∈ LL := by
        rw [List.getD_eq_getElem?_getD, List.getElem?_eq_getElem (by rw [HN.out.1]; exact hj)]
        exact List.getElem_mem _
      have BX := Lib.hid (HN.out.2.2.1 _ hmem)
      have HFD := Lib.hid (findLL_drop (f := f) (key := key) (LL := LL) (j := j) (by rw [HN.out.1]; exact hj) rfl)
      generalize LL.getD j [] = x at *
      have z0 : decide ((j : Int) < (n : Int)) = true := decide_eq_true (by omega)
      have z2 : (j : Int) < (n : Int) := by omega
      have HJL := Lib.hid (And.intro hj HJ.out.2)
      have w1' : wrap64 ((j : Int) + 1) = (j : Int) + 1 := wz (by omega) (by have := HN.out.2.1; omega)
      clear hmem hFr hl1
      by_cases hx0 : x.length = 0
      · have y0 : ((x.length : Int) == 0) = true := by rw [beq_iff_eq]; omega
        have HX0 := Lib.hid hx0
        clear hx0 hF1
        go_upto_region 2 with (fail)
        have D0 := cell_regrown t0
        have D1 := cell_regrown t1
        have D2 := cell_regrown r0
        have HW : ∀ d os, Hid (Below wr.heap.size wr (grow (redrawn wr d) os)) := fun d os => below_regrown wr d os
        refine wp_region_quiet_below (by kernel_rfl) (by kernel_rfl) ?_
        repeat (go_big_quiet_step (fail))
        refine wpQuiet_nil ?_
        intro _ hw'
        obtain ⟨⟨dq, osq⟩, hw''⟩ := hw'
        subst hw''
        have HBW := Lib.hid (HBL.out.trans ((HW dq osq).out.mono HBL.out.size))
        clear D0 D1 D2 HW
        generalize grow (redrawn wr dq) osq = W at *
        go_wp2
        go_roundg (gk - 1)
        case measure => exact round_less HJL.out.1 HJL.out.2
        case rel => exact ⟨j + 1, (by first | rfl | exact congrArg _ w1'), Lib.hid (round_next HJL.out.1 HJL.out.2), Lib.hid (by rw [HFI.out, HFD.out, if_pos (.inl HX0.out)]; omega), HBW⟩
      · obtain ⟨m, hm⟩ : ∃ m, x.length = m + 1 := ⟨x.length - 1, by omega⟩
        have y0 : ((x.length : Int) == 0) = false := by rw [beq_eq_false_iff_ne]; omega
        have HX0 := Lib.hid hx0
        obtain ⟨am, K1, k1, V1, k2, rfl, u0, -, hKF, -, -, -⟩ := kv_at hF1 (j := m) (by omega) rfl
        have hmem : x.getD m (⟨[], []⟩ : S44) ∈ x := by
          rw [List.getD_eq_getElem?_getD, List.getElem?_eq_getElem (by omega)]
          exact List.getElem_mem _
        have hlast : lastK x = (x.getD m (⟨[], []⟩ : S44)).f0 := by
          unfold lastK
          rw [show x.length - 1 = m by omega]
        rw [hlast] at HFD
        have BY := Lib.hid (BX.out.2 _ hmem)
        have w2 : wrap64 ((x.length : Int) - 1) = (m : Int) := by have := BX.out.1; unfold wrap64; omega
        have w2' : IntKind.i64.wrap ((x.length : Int) - 1) = (m : Int) := by rw [IntKind.wrap_i64]; have := BX.out.1; omega
        have v1 : (m : Int) < (x.length : Int) := by omega
        generalize x.getD m (⟨[], []⟩ : S44) = y at *
        have HF1 := Lib.hid hKF
        clear hF1 hmem hlast hx0 hm hKF
        go_upto_region 2 with (fail)
        have D0 := cell_regrown t0
        have D1 := cell_regrown t1
        have D2 := cell_regrown r0
        have D3 := cell_regrown u0
        have HW : ∀ d os, Hid (Below wr.heap.size wr (grow (redrawn wr d) os)) := fun d os => below_regrown wr d os
        have HK : ∀ W, Below wr.heap.size wr W → Hid (Kd.C (Kd.int .u8) W K1 y.f0.length y.f0) := fun W hW => Lib.hid (Kd.F_now (Kd.F_below HF1.out hW))
        have HA2 : ∀ W, Below wr.heap.size wr W → Hid (Kd.C (Kd.int .u8) W B key.length key) := fun W hW => Lib.hid (Kd.C_below (Kd.C_below (Kd.C_below HA.out HB0.out) HBL.out) hW)
        refine wp_region_quiet_below (by kernel_rfl) (by kernel_rfl) ?_
        repeat (go_big_quiet_step (with_reducible refine Calls.regrown_of (HCMP.out _ _ _ _ _ _ _ _ _ (HK _ (HW _ _).out).out (HA2 _ (HW _ _).out).out BY.out HN.out.2.2.2)))
        refine wpQuiet_nil ?_
        intro _ hw'
        obtain ⟨⟨dq, osq⟩, hw''⟩ := hw'
        subst hw''
        have HBW := Lib.hid (HBL.out.trans ((HW dq osq).out.mono HBL.out.size))
        clear D0 D1 D2 D3 HW HK HA2
        generalize grow (redrawn wr dq) osq = W at *
        by_cases hneg : f y.f0 key < 0
        · have z1 : decide (f y.f0 key < 0) = true := decide_eq_true hneg
          have HNEG := Lib.hid hneg
          go_wp2
          go_roundg (gk - 1)
          case measure => exact round_less HJL.out.1 HJL.out.2
          case rel => exact ⟨j + 1, (by first | rfl | exact congrArg _ w1'), Lib.hid (round_next HJL.out.1 HJL.out.2), Lib.hid (by rw [HFI.out, HFD.out, if_pos (.inr HNEG.out)]; omega), HBW⟩
        · have z1 : decide (f y.f0 key < 0) = false := decide_eq_false hneg
          have HNEG := Lib.hid hneg
          go_wp2
          go_ret
          exact ⟨ret_int (by rw [HFI.out, HFD.out, if_neg (fun q => q.elim HX0.out (fun h => by have := HNEG.out; omega))]; rfl), HB0.out.trans (HBW.out.mono HB0.out.size)⟩
    · have z0 : decide ((j : Int) < (n : Int)) = false := decide_eq_false (by omega)
      have z2 : ¬ (j : Int) < (n : Int) := by omega
      have hjn : j = LL.length := by have := HJ.out.1; have := HN.out.1; omega
      have HJN := Lib.hid hjn
      clear hjn
      go_upto_region 2 with (fail)
      have D0 := cell_regrown t0
      have D1 := cell_regrown t1
      have HW : ∀ d os, Hid (Below wr.heap.size wr (grow (redrawn wr d) os)) := fun d os => below_regrown wr d os
      refine wp_region_quiet_below (by kernel_rfl) (by kernel_rfl) ?_
      repeat (go_big_quiet_step (fail))
      refine wpQuiet_nil ?_
      intro _ hw'
      obtain ⟨⟨dq, osq⟩, hw''⟩ := hw'
      subst hw''
      have HBW := Lib.hid (HBL.out.trans ((HW dq osq).out.mono HBL.out.size))
      clear D0 D1 HW
      generalize grow (redrawn wr dq) osq = W at *
      go_wp2
      go_ret
      exact ⟨ret_int (by rw [HFI.out, HJN.out, List.drop_length]; rfl), HB0.out.trans (HBW.out.mono HB0.out.size)⟩

theorem lists_barr {V : Value} {f : List Int → List Int → Int} {A : Option Addr} {n c : Nat} {LL : List (List S44)} (hV : Cmpr V f) (hn : LL.length = n) (hl : n ≤ 4294967296) (hb : ∀ l ∈ LL, l.length ≤ 4294967296 ∧ ∀ x ∈ l, Byt x.f0) (ok : Nat → Prop) :
    BArr 133 (arrV V A n c) 154 253 n (fun key => findLL f key LL) (fun w => Kd.F kLL w ok A n LL) := by
  refine ⟨fun m hm w => ?_, fun w => by kernel_rfl, fun w => by kernel_rfl, fun k hk args w => ?_, hl, fun key => ?_, fun w => ?_, fun w B d key hF hA hk => ?_, fun w w' h hb => Kd.F_below h hb⟩
  · simp only [List.mem_cons, List.mem_nil_iff, or_false] at hm
    rcases hm with rfl | rfl <;> kernel_rfl
  · simp only [List.mem_cons, List.mem_nil_iff, or_false] at hk
    rcases hk with rfl | rfl
    · exact Go.MuLone.run_callFunc_enter Tryz.func154 (by kernel_rfl) rfl args w
    · exact Go.MuLone.run_callFunc_enter Tryz.func253 (by kernel_rfl) rfl args w
  · have := findLL_le f key LL
    rw [hn] at this
    exact this
  · exact lists_len V A n c w
  · exact lists_search hV hn hl hF hb hA hk

def LgTold (V : Value) (A : Option Addr) (n c : Nat) (w : World) (e : Ending) (w' : World) : Prop :=
  ∃ it, e = .returned (.iface 161 (.pointer (some ⟨it, 0, none⟩))) ∧ w.heap.size ≤ it ∧ w'.heap[it]? = some (.cells (arCells (arI V A n c) (-1) (-1) (.slice none 0 0) (.slice none 0 0)) 167 (0, 0)) ∧ Below w.heap.size w w'

set_option maxHeartbeats 3200000 in
set_option maxRecDepth 100000 in
theorem lists_get {V : Value} {ad : Addr} {n c : Nat} {w : World} {q : Nat} {T : Nat} {u : Value} {A1 : Option Addr} {nl c1 : Nat} (hV : V = .iface T u) (hq : q < n) (r0 : w.cell? (ad.add q) = some (.slice A1 nl c1)) :
    Calls Tryz.prog 252 #[arrV V (some ad) n c, .int .i64 (q : Int)] w fun e w' => LgTold V A1 nl c1 w e w' := by
  subst hV
  have HB0 := Lib.hid (below_alloc (Below.refl w.heap.size w) (.cells #[.iface T u, .slice (some ad) n c] 133))
  have hS0 := blk_new w (.cells #[.iface T u, .slice (some ad) n c] 133)
  have t0 : (w.alloc (.cells #[.iface T u, .slice (some ad) n c] 133)).cell? ⟨w.heap.size, 0, none⟩ = some (.iface T u) := (blk_cell hS0 0).trans rfl
  have t1 : (w.alloc (.cells #[.iface T u, .slice (some ad) n c] 133)).cell? ⟨w.heap.size, 1, none⟩ = some (.slice (some ad) n c) := (blk_cell hS0 1).trans rfl
  have r0 := pw_cell_below HB0.out r0
  have z2 : (q : Int) < (n : Int) := by omega
  clear hS0
  unfold arrV
  go_enter Tryz.func252, Tryz.ntmps252
  go_upto_region 1 with (fail)
  generalize w.alloc (.cells #[.iface T u, .slice (some ad) n c] 133) = w1 at *
  go_region_with ((with_reducible refine (NewArrayIterator_calls _ _ _ _ rfl).mono ?_); rintro e w2 ⟨rfl, rfl⟩)
  all_goals (
    rename_i K' hK'
    simp only [Exit.then]
    refine hK' _ _ ?_
    go_wp2
    go_ret
    exact ⟨w1.heap.size, rfl, HB0.out.size, (blk_new w1 _).trans rfl, (below_alloc HB0.out _).drew⟩)

def idCells (I : Value) (pos : Int) : Array Value := #[.nilIface, .bool false, I, .int .i64 pos, .nilIface, I]
abbrev lsI (V : Value) (A : Option Addr) (n c : Nat) : Value := .iface 133 (arrV V A n c)
theorem id_is (V : Value) (A : Option Addr) (n c : Nat) (pos : Int) : BaIs (idCells (lsI V A n c) pos) 133 (arrV V A n c) pos := ⟨rfl, rfl, rfl, rfl⟩

set_option maxHeartbeats 3200000 in
set_option maxRecDepth 100000 in
theorem idx_get {V : Value} {f : List Int → List Int → Int} {ad : Addr} {n c : Nat} {LL : List (List S44)} {w : World} {q b : Nat} (hV : Cmpr V f) (hn : LL.length = n) (hl : n ≤ 4294967296) (hb : ∀ l ∈ LL, l.length ≤ 4294967296 ∧ ∀ x ∈ l, Byt x.f0) (hq : q < n) {A1 : Option Addr} {nl c1 : Nat} (r0 : w.cell? (ad.add q) = some (.slice A1 nl c1))
    (hbb : w.heap[b]? = some (.cells (idCells (lsI V (some ad) n c) (q : Int)) 205 (0, 0))) :
    Calls Tryz.prog 238 #[.pointer (some ⟨b, 0, none⟩)] w fun e w' => LgTold V A1 nl c1 w e w' := by
  have HVAL := Lib.hid (baValid (w := w) (pos := (q : Int)) (lists_barr (A := some ad) (c := c) hV hn hl hb (fun _ => True)) hbb (id_is V (some ad) n c q))
  have z1 : (decide (0 ≤ (q : Int)) && decide ((q : Int) < (n : Int))) = true := by simp; omega
  rw [z1] at HVAL
  obtain ⟨T, u, K, hVV, -, -, -, -⟩ := hV.make
  have HLG := Lib.hid (show ∀ W, Below w.heap.size w W → Calls Tryz.prog 252 #[arrV V (some ad) n c, .int .i64 (q : Int)] W fun e w' => LgTold V A1 nl c1 W e w' from fun W hW => lists_get hVV hq (pw_cell_below hW r0))
  have HBB := Lib.hid hbb
  have n1 : ∀ w, (nilAhead 418 133 (arrV V (some ad) n c) "Get").run Tryz.prog w = .ok (some false) w := fun w => by kernel_rfl
  have m1 : ∀ w, (method 418 133 (arrV V (some ad) n c) "Get").run Tryz.prog w = .ok (252, arrV V (some ad) n c) w := fun w => by kernel_rfl
  have q1 : ∀ (args : Array Value) (w : World), (callFunc 252 args).run Tryz.prog w = .ok (.enter 252 args) w := fun args w => Go.MuLone.run_callFunc_enter Tryz.func252 (by kernel_rfl) rfl args w
  clear hV hn hl hb z1 hbb r0 hVV
  go_enter Tryz.func238, Tryz.ntmps238
  go_upto_region 2 with (go_at_call 200; (with_reducible refine HVAL.out.mono ?_); rintro e w3 ⟨rfl, hbv⟩; have HBV := Lib.hid hbv.out)
  have hb3 : w3.drew.heap[b]? = _ := (HBV.out.block b (blk_lt HBB.out)).trans HBB.out
  have HBD := Lib.hid (HBV.out.drew)
  have s5 : w3.drew.cell? ⟨b, 5, none⟩ = some (lsI V (some ad) n c) := (blk_cell hb3 5).trans rfl
  have s3 : w3.drew.cell? ⟨b, 3, none⟩ = some (.int .i64 (q : Int)) := (blk_cell hb3 3).trans rfl
  clear hb3
  go_region_with ((with_reducible refine (HLG.out _ HBD.out).mono ?_); rintro e w4 ⟨it, rfl, h1, h2, h3⟩)
  all_goals (
    rename_i K' hK'
    simp only [Exit.then]
    refine hK' _ _ ?_
    go_wp2
    go_ret
    exact ⟨it, rfl, Nat.le_trans HBD.out.size h1, h2, HBD.out.trans (h3.mono HBD.out.size)⟩)

set_option maxHeartbeats 1600000 in
theorem rel_calls {w : World} {it : Nat} {cs : Array Value} {bt : TypeId} (hb : w.heap[it]? = some (.cells cs bt (0, 0))) (h0 : cs[0]? = some .nilIface) (h1 : cs[1]? = some (.bool false)) :
    Calls Tryz.prog 198 #[.pointer (some ⟨it, 0, none⟩)] w fun e w' => e = .returned (.tuple #[]) ∧ Hid (Fr w w' (fun k => k = it)) := by
  have r0 := (blk_cell hb 0).trans h0
  have r1 := (blk_cell hb 1).trans h1
  have fz := blk_frozen hb 1
  have hf := (Fr.refl w (fun k => k = it)).setCell (p := ⟨it, 1, none⟩) (.inl rfl) (.bool true)
  have HF := Lib.hid hf
  clear hb h0 h1 hf
  go_enter Tryz.func198, Tryz.ntmps198
  go_wp2
  go_end0
  exact ⟨rfl, HF⟩

def ixCells (b : Nat) (dv : Value) : Array Value := #[.nilIface, .bool false, .iface 203 (.pointer (some ⟨b, 0, none⟩)), .bool true, dv, .nilIface, .nilFunc, .bool false]
abbrev ixO (b : Nat) (dv : Value) : Obj := .cells (ixCells b dv) 200 (0, 0)
abbrev idO (I : Value) (pos : Int) : Obj := .cells (idCells I pos) 205 (0, 0)
abbrev dtV (it : Nat) : Value := .iface 161 (.pointer (some ⟨it, 0, none⟩))
def DvB (dv : Value) (k : Nat) : Prop := dv = dtV k
theorem DvB.it {it k : Nat} (h : DvB (dtV it) k) : k = it := by
  unfold DvB at h
  simp only [dtV, Value.iface.injEq, Value.pointer.injEq, Option.some.injEq, Addr.mk.injEq] at h
  exact h.2.1.symm
theorem DvB.nil {k : Nat} (h : DvB .nilIface k) : False := by
  unfold DvB at h
  exact Value.noConfusion h
def DvOk (w : World) (ix : Nat) (dv : Value) : Prop := dv = .nilIface ∨ ∃ it I pos pos2 ka va, dv = dtV it ∧ it ≠ ix ∧ w.heap[it]? = some (.cells (arCells I pos pos2 ka va) 167 (0, 0))

def ClTold (ix b : Nat) (dv dv2 : Value) (w : World) (e : Ending) (w' : World) : Prop :=
  e = .returned (.tuple #[]) ∧ Hid (Fr w w' (fun k => k = ix ∨ DvB dv k)) ∧ Hid (w'.heap[ix]? = some (ixO b dv2))

section
variable {w : World} {ix b it : Nat} {dv : Value}

set_option maxHeartbeats 3200000 in
set_option maxRecDepth 100000 in
theorem clear_calls (hx : w.heap[ix]? = some (ixO b dv)) (hd : DvOk w ix dv) :
    Calls Tryz.prog 235 #[.pointer (some ⟨ix, 0, none⟩)] w fun e w' => ClTold ix b dv .nilIface w e w' := by
  have r4 : w.cell? ⟨ix, 4, none⟩ = some dv := (blk_cell hx 4).trans rfl
  have f4 := blk_frozen hx 4
  rcases hd with rfl | ⟨it, I, pos, pos2, ka, va, rfl, hne, hit⟩
  · have HF := Lib.hid ((Fr.refl w (fun k => k = ix ∨ DvB .nilIface k)).setCell (p := ⟨ix, 4, none⟩) (.inl (.inl rfl)) .nilIface)
    have HX := Lib.hid ((blk_set hx 4 .nilIface).trans (show _ = some (ixO b .nilIface) from rfl))
    clear hx
    go_enter Tryz.func235, Tryz.ntmps235
    go_wp2
    go_end0
    exact ⟨rfl, HF, HX⟩
  · have n1 : ∀ w, (nilAhead 418 161 (.pointer (some ⟨it, 0, none⟩)) "Release").run Tryz.prog w = .ok (some false) w := fun w => by kernel_rfl
    have m1 : ∀ w, (method 418 161 (.pointer (some ⟨it, 0, none⟩)) "Release").run Tryz.prog w = .ok (198, .pointer (some ⟨it, 0, none⟩)) w := fun w => by kernel_rfl
    have q1 : ∀ (args : Array Value) (w : World), (callFunc 198 args).run Tryz.prog w = .ok (.enter 198 args) w := fun args w => Go.MuLone.run_callFunc_enter Tryz.func198 (by kernel_rfl) rfl args w
    have HREL := Lib.hid (rel_calls hit rfl rfl)
    have HXX := Lib.hid (And.intro hx hne)
    clear hx hit hne
    go_enter Tryz.func235, Tryz.ntmps235
    go_wp2_with ((with_reducible refine HREL.out.mono ?_); rintro e w1 ⟨rfl, hf⟩; have hx1 := (hf.out.block ix (blk_lt HXX.out.1) (fun q => HXX.out.2 q.symm)).trans HXX.out.1; have g4 := (blk_cell hx1 4).trans rfl; have k4 := blk_frozen hx1 4)
    go_end0
    exact ⟨rfl, Lib.hid ((hf.out.mono (fun k hk => .inr (by rw [hk]; rfl))).setCell (p := ⟨ix, 4, none⟩) (.inl (.inl rfl)) .nilIface), Lib.hid ((blk_set hx1 4 .nilIface).trans rfl)⟩

def StTold (V : Value) (A1 : Option Addr) (nl c1 ix b : Nat) (dv : Value) (w : World) (e : Ending) (w' : World) : Prop :=
  e = .returned (.tuple #[]) ∧ ∃ it, Hid (w.heap.size ≤ it ∧ it < w'.heap.size) ∧ Hid (w'.heap[ix]? = some (ixO b (dtV it))) ∧ Hid (w'.heap[it]? = some (.cells (arCells (arI V A1 nl c1) (-1) (-1) (.slice none 0 0) (.slice none 0 0)) 167 (0, 0))) ∧ Hid (Fr w w' (fun k => k = ix ∨ DvB dv k))

set_option maxHeartbeats 3200000 in
set_option maxRecDepth 100000 in
theorem set_calls {V : Value} {f : List Int → List Int → Int} {ad : Addr} {n c q : Nat} {LL : List (List S44)} (hV : Cmpr V f) (hn : LL.length = n) (hl : n ≤ 4294967296) (hb : ∀ l ∈ LL, l.length ≤ 4294967296 ∧ ∀ x ∈ l, Byt x.f0) (hq : q < n) {A1 : Option Addr} {nl c1 : Nat} (r0 : w.cell? (ad.add q) = some (.slice A1 nl c1)) (hbk : (ad.add q).block ≠ ix ∧ ¬ DvB dv (ad.add q).block)
    (hbb : w.heap[b]? = some (idO (lsI V (some ad) n c) (q : Int))) (hbn : b ≠ ix ∧ ¬ DvB dv b) (hx : w.heap[ix]? = some (ixO b dv)) (hd : DvOk w ix dv) :
    Calls Tryz.prog 236 #[.pointer (some ⟨ix, 0, none⟩)] w fun e w' => StTold V A1 nl c1 ix b dv w e w' := by
  have r4 : w.cell? ⟨ix, 4, none⟩ = some dv := (blk_cell hx 4).trans rfl
  have r2 : w.cell? ⟨ix, 2, none⟩ = some (.iface 203 (.pointer (some ⟨b, 0, none⟩))) := (blk_cell hx 2).trans rfl
  have f4 := blk_frozen hx 4
  have HGET := Lib.hid (show ∀ W, W.cell? (ad.add q) = some (.slice A1 nl c1) → W.heap[b]? = some (idO (lsI V (some ad) n c) (q : Int)) → Calls Tryz.prog 238 #[.pointer (some ⟨b, 0, none⟩)] W fun e w' => LgTold V A1 nl c1 W e w' from fun W h1 h2 => idx_get hV hn hl hb hq h1 h2)
  have n2 : ∀ w, (nilAhead 418 203 (.pointer (some ⟨b, 0, none⟩)) "Get").run Tryz.prog w = .ok (some false) w := fun w => by kernel_rfl
  have m2 : ∀ w, (method 418 203 (.pointer (some ⟨b, 0, none⟩)) "Get").run Tryz.prog w = .ok (238, .pointer (some ⟨b, 0, none⟩)) w := fun w => by kernel_rfl
  have q2 : ∀ (args : Array Value) (w : World), (callFunc 238 args).run Tryz.prog w = .ok (.enter 238 args) w := fun args w => Go.MuLone.run_callFunc_enter Tryz.func238 (by kernel_rfl) rfl args w
  have HP := Lib.hid (And.intro r0 (And.intro hbk (And.intro hbb (And.intro hbn hx))))
  clear hV hn hl hb hq r0 hbk hbb hbn hx
  rcases hd with rfl | ⟨it, I, pos, pos2, ka, va, rfl, hne, hit⟩
  · go_enter Tryz.func236, Tryz.ntmps236
    go_wp2_with ((with_reducible refine (HGET.out _ HP.out.1 HP.out.2.2.1).mono ?_); rintro e w2 ⟨i2, rfl, h1, h2, h3⟩; have hx2 := (h3.block ix (blk_lt HP.out.2.2.2.2)).trans HP.out.2.2.2.2; have g4 := (blk_cell hx2 4).trans rfl; have k4 := blk_frozen hx2 4)
    go_end0
    have hlt := blk_lt h2
    have hn : i2 ≠ ix := fun q => by have := blk_lt HP.out.2.2.2.2; omega
    exact ⟨rfl, i2, Lib.hid ⟨h1, by rw [World.size_setCell]; exact hlt⟩, Lib.hid ((blk_set hx2 4 _).trans rfl), Lib.hid ((Below.heap_setCell _ _ _ _ hn).trans h2), Lib.hid ((Fr.of_below h3 _).setCell (p := ⟨ix, 4, none⟩) (.inl (.inl rfl)) _)⟩
  · have n1 : ∀ w, (nilAhead 418 161 (.pointer (some ⟨it, 0, none⟩)) "Release").run Tryz.prog w = .ok (some false) w := fun w => by kernel_rfl
    have m1 : ∀ w, (method 418 161 (.pointer (some ⟨it, 0, none⟩)) "Release").run Tryz.prog w = .ok (198, .pointer (some ⟨it, 0, none⟩)) w := fun w => by kernel_rfl
    have q1 : ∀ (args : Array Value) (w : World), (callFunc 198 args).run Tryz.prog w = .ok (.enter 198 args) w := fun args w => Go.MuLone.run_callFunc_enter Tryz.func198 (by kernel_rfl) rfl args w
    have HREL := Lib.hid (rel_calls hit rfl rfl)
    have hbi : b ≠ it := fun q => HP.out.2.2.2.1.2 (by rw [q]; rfl)
    have hai : ¬ (ad.add q).block = it := fun q => HP.out.2.1.2 (by rw [q]; rfl)
    have HNE := Lib.hid (And.intro hne (And.intro hbi hai))
    clear hit hne hbi hai
    go_enter Tryz.func236, Tryz.ntmps236
    go_wp2_with (first
      | ((with_reducible refine HREL.out.mono ?_); rintro e w1 ⟨rfl, hf⟩; have HX1 := Lib.hid ((hf.out.block ix (blk_lt HP.out.2.2.2.2) (fun q => HNE.out.1 q.symm)).trans HP.out.2.2.2.2); have HB1 := Lib.hid ((hf.out.block b (blk_lt HP.out.2.2.1) HNE.out.2.1).trans HP.out.2.2.1); have HC1 := Lib.hid (hf.out.cell HP.out.1 HNE.out.2.2); have g2 : w1.cell? ⟨ix, 2, none⟩ = some (.iface 203 (.pointer (some ⟨b, 0, none⟩))) := (blk_cell HX1.out 2).trans rfl)
      | ((with_reducible refine (HGET.out _ HC1.out HB1.out).mono ?_); rintro e w2 ⟨i2, rfl, h1, h2, h3⟩; have hx2 := (h3.block ix (blk_lt HX1.out)).trans HX1.out; have g4 := (blk_cell hx2 4).trans rfl; have k4 := blk_frozen hx2 4))
    go_end0
    have hlt := blk_lt h2
    have hsz := hf.out.size
    have hn : i2 ≠ ix := fun q => by have := blk_lt HX1.out; omega
    exact ⟨rfl, i2, Lib.hid ⟨by omega, by rw [World.size_setCell]; exact hlt⟩, Lib.hid ((blk_set hx2 4 _).trans rfl), Lib.hid ((Below.heap_setCell _ _ _ _ hn).trans h2), Lib.hid (((hf.out.mono (fun k hk => .inr (by rw [hk]; rfl))).then_ (Fr.of_below h3 (fun _ => False)) (fun k hk => hk.elim)).setCell (p := ⟨ix, 4, none⟩) (.inl (.inl rfl)) _)⟩
end

end Go.Proofs.YtdkkkikcigjlhaaGreatDoor.Md

namespace Go.Proofs.YtdkkkikcigjlhaaGreatDoor.Md
open Go.Proofs.YtdkkkikcigjlhaaGreatDoor.PFnMemMap

def offL (LL : List (List S44)) (q : Nat) : Nat := (LL.take q).flatten.length
theorem off_zero (LL : List (List S44)) : offL LL 0 = 0 := by simp [offL]
theorem off_cons (x : List S44) (r : List (List S44)) (q : Nat) : offL (x :: r) (q + 1) = x.length + offL r q := by simp [offL]
theorem off_succ : ∀ (LL : List (List S44)) (q : Nat), q < LL.length → offL LL (q + 1) = offL LL q + (LL.getD q []).length := by
  intro LL
  induction LL with
  | nil => intro q h; simp at h
  | cons x r ih =>
    intro q h
    cases q with
    | zero => rw [off_cons, off_zero, off_zero]; simp
    | succ q =>
      rw [off_cons, off_cons, ih q (by simpa using h)]
      simp only [List.getD_cons_succ]
      omega
theorem off_top (LL : List (List S44)) (q : Nat) (h : LL.length ≤ q) : offL LL q = LL.flatten.length := by
  unfold offL
  rw [List.take_of_length_le h]
theorem off_le : ∀ (LL : List (List S44)) (q : Nat), offL LL q ≤ LL.flatten.length := by
  intro LL
  induction LL with
  | nil => intro q; simp [offL]
  | cons x r ih =>
    intro q
    cases q with
    | zero => rw [off_zero]; omega
    | succ q =>
      rw [off_cons]
      have := ih q
      simp only [List.flatten_cons, List.length_append]
      omega
theorem off_in (LL : List (List S44)) (q i : Nat) (h : q < LL.length) (hi : i < (LL.getD q []).length) : offL LL q + i < LL.flatten.length := by
  have h1 := off_succ LL q h
  have h2 := off_le LL (q + 1)
  omega
theorem flat_at : ∀ (LL : List (List S44)) (q i : Nat), q < LL.length → i < (LL.getD q []).length → LL.flatten.getD (offL LL q + i) (⟨[], []⟩ : S44) = (LL.getD q []).getD i (⟨[], []⟩ : S44) := by
  intro LL
  induction LL with
  | nil => intro q i h; simp at h
  | cons x r ih =>
    intro q i h hi
    cases q with
    | zero =>
      rw [off_zero, Nat.zero_add]
      simp only [List.getD_cons_zero] at hi ⊢
      rw [List.flatten_cons, List.getD_eq_getElem?_getD, List.getElem?_append_left hi, ← List.getD_eq_getElem?_getD]
    | succ q =>
      simp only [List.getD_cons_succ] at hi ⊢
      rw [off_cons, List.flatten_cons, List.getD_eq_getElem?_getD, List.getElem?_append_right (by omega), show x.length + offL r q + i - x.length = offL r q + i by omega, ← List.getD_eq_getElem?_getD]
      exact ih q i (by simpa using h) hi

theorem flat_kv (LL : List (List S44)) (q i : Nat) (h : q < LL.length) (hi : i < (LL.getD q []).length) :
    onL (kvS LL.flatten) ((offL LL q + i : Nat) : Int) = true ∧ keyL (kvS LL.flatten) ((offL LL q + i : Nat) : Int) = keyL (kvS (LL.getD q [])) (i : Int) ∧ valL (kvS LL.flatten) ((offL LL q + i : Nat) : Int) = valL (kvS (LL.getD q [])) (i : Int) := by
  have h1 := off_in LL q i h hi
  obtain ⟨e1, e2⟩ := keyL_on h1
  obtain ⟨e3, e4⟩ := keyL_on hi
  rw [e1, e2, e3, e4, flat_at LL q i h hi]
  refine ⟨?_, rfl, rfl⟩
  unfold onL
  rw [kvS_len, decide_eq_true (by omega), decide_eq_true (by omega)]
  rfl

def Up (f : List Int → List Int → Int) (L : List KV) : Prop := L.Pairwise fun a b => f a.1 b.1 < 0
theorem rises_up {f : List Int → List Int → Int} (ho : Ord f) : ∀ L : List KV, risesL f L = true → Up f L := by
  intro L
  induction L with
  | nil => intro _; exact List.Pairwise.nil
  | cons x r ih =>
    intro h
    cases r with
    | nil => exact List.pairwise_singleton _ _
    | cons y r =>
      simp only [risesL, Bool.and_eq_true, decide_eq_true_eq] at h
      have h2 := ih h.2
      refine List.Pairwise.cons (fun z hz => ?_) h2
      rcases List.mem_cons.1 hz with rfl | hz
      · exact h.1
      · exact ho.trans _ _ _ h.1 ((List.pairwise_cons.1 h2).1 z hz)
theorem kvS_app (a b : List S44) : kvS (a ++ b) = kvS a ++ kvS b := List.map_append
theorem up_parts {f : List Int → List Int → Int} : ∀ LL : List (List S44), Up f (kvS LL.flatten) → ∀ l ∈ LL, Up f (kvS l) := by
  intro LL
  induction LL with
  | nil => intro _ l h; cases h
  | cons x r ih =>
    intro h l hl
    rw [List.flatten_cons, kvS_app] at h
    have h2 := List.pairwise_append.1 h
    rcases List.mem_cons.1 hl with rfl | hl
    · exact h2.1
    · exact ih h2.2.1 l hl

theorem findL_cons (f : List Int → List Int → Int) (key : List Int) (x : KV) (r : List KV) : findL f key (x :: r) = if f x.1 key < 0 then findL f key r + 1 else 0 := rfl
theorem findL_beyond {f : List Int → List Int → Int} {key : List Int} : ∀ A B : List KV, (∀ x ∈ A, f x.1 key < 0) → findL f key (A ++ B) = A.length + findL f key B := by
  intro A B
  induction A with
  | nil => intro _; simp
  | cons x r ih =>
    intro h
    rw [List.cons_append, findL_cons, if_pos (h x (by simp)), ih (fun y hy => h y (by simp [hy])), List.length_cons]
    omega
theorem findL_within {f : List Int → List Int → Int} {key : List Int} : ∀ A B : List KV, findL f key A < A.length → findL f key (A ++ B) = findL f key A := by
  intro A B
  induction A with
  | nil => intro h; simp at h
  | cons x r ih =>
    intro h
    rw [List.cons_append]
    unfold findL at h ⊢
    split
    · rename_i q
      rw [if_pos q] at h
      rw [ih (by simp only [List.length_cons] at h; omega)]
    · rfl
theorem findL_halt {f : List Int → List Int → Int} {key : List Int} : ∀ A : List KV, (∃ x ∈ A, ¬ f x.1 key < 0) → findL f key A < A.length := by
  intro A
  induction A with
  | nil => rintro ⟨x, h, _⟩; cases h
  | cons x r ih =>
    rintro ⟨y, hy, hn⟩
    unfold findL
    split
    · rename_i q
      rcases List.mem_cons.1 hy with rfl | hy
      · exact absurd q hn
      · have := ih ⟨y, hy, hn⟩
        simp only [List.length_cons]
        omega
    · simp

theorem last_key {l : List S44} (h : l.length ≠ 0) : ∃ x ∈ kvS l, x.1 = lastK l ∧ ∀ f : List Int → List Int → Int, Up f (kvS l) → ∀ y ∈ kvS l, y = x ∨ f y.1 x.1 < 0 := by
  have hne : l ≠ [] := fun q => h (by rw [q]; rfl)
  obtain ⟨a, x, rfl⟩ : ∃ a x, l = a ++ [x] := ⟨l.dropLast, l.getLast hne, (List.dropLast_concat_getLast hne).symm⟩
  refine ⟨(x.f0, x.f1), by simp [kvS], ?_, fun f hU y hy => ?_⟩
  · unfold lastK
    simp [List.getD_eq_getElem?_getD]
  · rw [kvS_app] at hU hy
    rcases List.mem_append.1 hy with hy | hy
    · exact .inr ((List.pairwise_append.1 hU).2.2 y hy _ (by simp [kvS]))
    · exact .inl (by simpa [kvS] using hy)

theorem seek_flat {f : List Int → List Int → Int} (ho : Ord f) (key : List Int) : ∀ LL : List (List S44), (∀ l ∈ LL, Up f (kvS l)) →
    (findLL f key LL < LL.length → findL f key (kvS LL.flatten) = offL LL (findLL f key LL) + findL f key (kvS (LL.getD (findLL f key LL) [])) ∧ findL f key (kvS (LL.getD (findLL f key LL) [])) < (LL.getD (findLL f key LL) []).length) ∧
    (findLL f key LL = LL.length → findL f key (kvS LL.flatten) = LL.flatten.length) := by
  intro LL
  induction LL with
  | nil => intro _; exact ⟨fun h => by simp at h, fun _ => by simp [kvS, findL]⟩
  | cons x r ih =>
    intro h
    have hx := h x (by simp)
    have hr := ih (fun l hl => h l (by simp [hl]))
    rw [List.flatten_cons, kvS_app]
    unfold findLL
    by_cases q : x.length = 0 ∨ f (lastK x) key < 0
    · rw [if_pos q]
      have hall : ∀ y ∈ kvS x, f y.1 key < 0 := by
        intro y hy
        by_cases q0 : x.length = 0
        · have : (kvS x).length = 0 := by rw [kvS_len]; exact q0
          rw [List.length_eq_zero_iff.1 this] at hy
          cases hy
        · obtain ⟨z, hz, hzk, hzu⟩ := last_key q0
          have hk : f z.1 key < 0 := by
            rw [hzk]
            rcases q with q | q
            · exact absurd q q0
            · exact q
          rcases hzu f hx y hy with rfl | hlt
          · exact hk
          · exact ho.trans _ _ _ hlt hk
      rw [findL_beyond _ _ hall, kvS_len, off_cons]
      simp only [List.getD_cons_succ, List.length_cons, List.length_append]
      refine ⟨fun h1 => ?_, fun h1 => ?_⟩
      · have := hr.1 (by omega)
        exact ⟨by rw [this.1]; omega, this.2⟩
      · rw [hr.2 (by omega)]
    · rw [if_neg q, off_zero]
      have q0 : x.length ≠ 0 := fun e => q (.inl e)
      obtain ⟨z, hz, hzk, -⟩ := last_key q0
      have hst : findL f key (kvS x) < (kvS x).length := findL_halt _ ⟨z, hz, by rw [hzk]; exact fun e => q (.inr e)⟩
      rw [findL_within _ _ hst]
      rw [kvS_len] at hst
      simp only [List.getD_cons_zero, List.length_cons]
      exact ⟨fun _ => ⟨by omega, hst⟩, fun h1 => by omega⟩

end Go.Proofs.YtdkkkikcigjlhaaGreatDoor.Md
