/- An iterator that merges iterators: its cells; the scan for the least and for the greatest key. -/
import Derived.Test.YtdkkkikcigjlhaaGreatDoorMj34
import Derived.Test.YtdkkkikcigjlhaaGreatDoorMj35
set_option linter.unusedVariables false
set_option linter.unusedSimpArgs false
namespace Go.Proofs.YtdkkkikcigjlhaaGreatDoor.Md
open Go.RowKit Go.Proofs.YtdkkkikcigjlhaaGreatDoor.Con Go.Proofs.YtdkkkikcigjlhaaGreatDoor.Run Go.Proofs.YtdkkkikcigjlhaaGreatDoorW.PrintWords Go.Proofs.YtdkkkikcigjlhaaGreatDoorW.PrintMore Go.Proofs.YtdkkkikcigjlhaaGreatDoor.Cmp Go.Sort Go.RwLone Go.Proofs.YtdkkkikcigjlhaaGreatDoor.PFnMemMap

def mgCells (V its : Value) (kb k : Nat) (i d : Int) : Array Value := #[V, its, .bool true, .slice (some ⟨kb, 0, none⟩) k k, .int .i64 i, .int .i64 d, .nilIface, .nilFunc, .nilIface]
abbrev mgO (V its : Value) (kb k : Nat) (i d : Int) : Obj := .cells (mgCells V its kb k i d) 197 (0, 0)

def KyV (w : World) (R : Nat → Prop) (o : Option (List Int)) (v : Value) : Prop :=
  match o with
  | none => v = .slice none 0 0
  | some key => ∃ a c, v = .slice (some a) key.length c ∧ Kd.F (Kd.int .u8) w R (some a) key.length key ∧ Byt key
def KyAt (w : World) (R : Nat → Prop) (ka : Array Value) (k : Nat) (hd : Nat → Option (List Int)) : Prop := ka.size = k ∧ ∀ x, x < k → ∃ v, ka[x]? = some v ∧ KyV w R (hd x) v

theorem KyV.step {w w1 : World} {R : Nat → Prop} {o : Option (List Int)} {v : Value} (h : KyV w R o v) (hk : ∀ k, R k → k < w.heap.size → w1.heap[k]? = w.heap[k]?) : KyV w1 R o v := by
  cases o with
  | none => exact h
  | some key =>
    obtain ⟨a, c, h1, h2, h3⟩ := h
    exact ⟨a, c, h1, Kd.F_step h2 hk, h3⟩
theorem KyAt.step {w w1 : World} {R : Nat → Prop} {ka : Array Value} {k : Nat} {hd : Nat → Option (List Int)} (h : KyAt w R ka k hd) (hk : ∀ k, R k → k < w.heap.size → w1.heap[k]? = w.heap[k]?) : KyAt w1 R ka k hd :=
  ⟨h.1, fun x hx => by obtain ⟨v, h1, h2⟩ := h.2 x hx; exact ⟨v, h1, h2.step hk⟩⟩

set_option maxRecDepth 100000 in
theorem sl_eq (a : Addr) (n c : Nat) (W : World) : (binOp .eql 25 (.slice (some a) n c) (.slice none 0 0)).run Tryz.prog W = .ok (.bool false) W := by first | kernel_rfl | rfl
set_option maxRecDepth 100000 in
theorem sl_ne (a : Addr) (n c : Nat) (W : World) : (binOp .neq 25 (.slice (some a) n c) (.slice none 0 0)).run Tryz.prog W = .ok (.bool true) W := by first | kernel_rfl | rfl
set_option maxRecDepth 100000 in
theorem sl_eq0 (W : World) : (binOp .eql 25 (.slice none 0 0) (.slice none 0 0)).run Tryz.prog W = .ok (.bool true) W := by first | kernel_rfl | rfl
set_option maxRecDepth 100000 in
theorem sl_ne0 (W : World) : (binOp .neq 25 (.slice none 0 0) (.slice none 0 0)).run Tryz.prog W = .ok (.bool false) W := by first | kernel_rfl | rfl

def Least (f : List Int → List Int → Int) (hd : Nat → Option (List Int)) (j k : Nat) (i : Int) (o : Option (List Int)) : Prop :=
  match o with
  | none => ∀ x, x < j → hd x = none
  | some key => (∃ n : Nat, i = (n : Int) ∧ n < k ∧ hd n = some key) ∧ ∀ x, x < j → ∀ key2, hd x = some key2 → ¬ f key2 key < 0
def NxScan (f : List Int → List Int → Int) (V its : Value) (m kb k : Nat) (hd : Nat → Option (List Int)) (w : World) (e : Ending) (w' : World) : Prop :=
  ∃ (bb : Bool) (i : Int), e = .returned (.bool bb) ∧ Hid (w'.heap[m]? = some (mgO V its kb k i (if bb = true then 3 else 1))) ∧ Hid (Fr w w' (fun q => q = m)) ∧ Hid (if bb = true then ∃ key, Least f hd k k i (some key) else Least f hd k k i none)

set_option maxHeartbeats 6400000 in
set_option maxRecDepth 100000 in
theorem mgNext_scan {V its : Value} {f : List Int → List Int → Int} {m kb k : Nat} {i d : Int} {R : Nat → Prop} {ka : Array Value} {hd : Nat → Option (List Int)} {w : World} (hV : Cmpr V f) (hm : w.heap[m]? = some (mgO V its kb k i d)) (hkb : w.heap[kb]? = some (.cells ka 25 (0, 0))) (hne : kb ≠ m) (hR : ∀ q, R q → q ≠ m) (hk : KyAt w R ka k hd) (hi : d = 3 → ∃ n : Nat, i = (n : Int) ∧ n < k) (hks : k ≤ 4294967296) :
    Calls Tryz.prog 222 #[.pointer (some ⟨m, 0, none⟩)] w fun e w' => NxScan f V its m kb k hd w e w' := by
  obtain ⟨T, u, K, rfl, hnil, hmeth, hcall, hcmp⟩ := hV.make
  have HORD := Lib.hid hV.ord
  have HCMP := Lib.hid hcmp
  have HH := Lib.hid (And.intro hm (And.intro hkb (And.intro hne (And.intro hR (And.intro hk hks)))))
  have r5 : w.cell? ⟨m, 5, none⟩ = some (.int .i64 d) := (blk_cell hm 5).trans rfl
  have r3 : w.cell? ⟨m, 3, none⟩ = some (.slice (some ⟨kb, 0, none⟩) k k) := (blk_cell hm 3).trans rfl
  have r4 : w.cell? ⟨m, 4, none⟩ = some (.int .i64 i) := (blk_cell hm 4).trans rfl
  clear hV hm hkb hne hR hcmp hks
  have sq1 := sl_eq
  have sq2 := sl_ne
  have sq3 := sl_eq0
  have sq4 := sl_ne0
  by_cases hd0 : d = 3
  · subst hd0
    obtain ⟨n, rfl, hn⟩ := hi rfl
    obtain ⟨v0, h1, h2⟩ := hk.2 n hn
    have HV0 := Lib.hid (h2.step (w1 := w.drew) (fun q _ hq => rfl))
    have HB0 : Hid (Least f hd 0 k (n : Int) (hd n)) := Lib.hid (by
      cases hh : hd n with
      | none => exact fun x hx => by omega
      | some key => exact ⟨⟨n, rfl, hn, hh⟩, fun x hx => by omega⟩)
    have c0 : w.drew.cell? ⟨kb, n, none⟩ = some v0 := (blk_cell HH.out.2.1 n).trans h1
    have r3' : w.drew.cell? ⟨m, 3, none⟩ = some (.slice (some ⟨kb, 0, none⟩) k k) := r3
    have r4' : w.drew.cell? ⟨m, 4, none⟩ = some (.int .i64 (n : Int)) := r4
    have HM0 : Hid (w.drew.heap[m]? = some (mgO (.iface T u) its kb k (n : Int) 3)) := Lib.hid HH.out.1
    have HF0 : Hid (Fr w w.drew (fun q => q = m)) := Lib.hid (Fr.of_below (below_drew (Below.refl _ _)) _)
    have HK0 := Lib.hid hk
    have v1 : (n : Int) < (k : Int) := by omega
    clear hi h1 h2 hk hn
    generalize hd n = o0 at *
    go_enter Tryz.func222, Tryz.ntmps222
    go_upto_region 3 with (fail)
    go_region
    generalize w.drew = w0 at *
    have r3'' : w0.cell? ⟨m, 3, none⟩ = some (.slice (some ⟨kb, 0, none⟩) k k) := (blk_cell HM0.out 3).trans rfl
    go_wp2
    go_loopg [3, 26] k (fun kk v3 v26 w' => ∃ (j : Nat) (o : Option (List Int)) (i2 : Int), v26 = .int .i64 (j : Int) ∧ Hid (j ≤ k ∧ k ≤ j + kk) ∧ Hid (KyV w' R o v3) ∧ Hid (Least f hd j k i2 o) ∧ Hid (w'.heap[m]? = some (mgO (.iface T u) its kb k i2 3)) ∧ Hid (Fr w w' (fun q => q = m)))
    case atStart => exact ⟨0, o0, (n : Int), rfl, Lib.hid ⟨Nat.zero_le _, by omega⟩, HV0, HB0, HM0, HF0⟩
    case round =>
      obtain ⟨j, o, i2, rfl, HJ, HV, HB, HM, HF⟩ := hrel
      by_cases hj : j < k
      · have z0 : decide ((j : Int) < (k : Int)) = true := decide_eq_true (by omega)
        have z2 : (j : Int) < (k : Int) := by omega
        have HJL := Lib.hid (And.intro hj HJ.out.2)
        have w1' : wrap64 ((j : Int) + 1) = (j : Int) + 1 := wz (by omega) (by have := HH.out.2.2.2.2.2; omega)
        obtain ⟨v, h1, h2⟩ := HK0.out.2 j hj
        have hkb2 : wr.heap[kb]? = some (.cells ka 25 (0, 0)) := (HF.out.block kb (blk_lt HH.out.2.1) HH.out.2.2.1).trans HH.out.2.1
        have c1 : wr.cell? ⟨kb, j, none⟩ = some v := (blk_cell hkb2 j).trans h1
        have h3 := h2.step (w1 := wr) (fun q hq hlt => HF.out.block q hlt (HH.out.2.2.2.1 q hq))
        have f4 := blk_frozen HM.out 4
        have q0 : wr.cell? ⟨m, 0, none⟩ = some (.iface T u) := (blk_cell HM.out 0).trans rfl
        have q4 : wr.cell? ⟨m, 4, none⟩ = some (.int .i64 i2) := (blk_cell HM.out 4).trans rfl
        clear hj h1 h2 hkb2
        cases hhd : hd j with
        | none =>
          rw [hhd] at h3
          have h3' : v = .slice none 0 0 := h3
          subst h3'
          have HB2 : Hid (Least f hd (j + 1) k i2 o) := Lib.hid (by
            have h0 := HB.out
            cases o with
            | none =>
              intro x hx
              by_cases q : x = j
              · rw [q]; exact hhd
              · exact h0 x (by omega)
            | some key =>
              refine ⟨h0.1, ?_⟩
              intro x hx key2 h4
              by_cases q : x = j
              · rw [q, hhd] at h4; cases h4
              · exact h0.2 x (by omega) key2 h4)
          clear h3 hhd
          go_wp2
          go_roundg (gk - 1)
          case measure => exact round_less HJL.out.1 HJL.out.2
          case rel => exact ⟨j + 1, o, i2, (by first | rfl | exact congrArg _ w1'), Lib.hid (round_next HJL.out.1 HJL.out.2), HV, HB2, HM, HF⟩
        | some key2 =>
          rw [hhd] at h3
          obtain ⟨a2, c2, rfl, h4, h5⟩ := h3
          have H4 := Lib.hid (And.intro h4 h5)
          clear h4 h5
          have HLESS : Hid (∀ key, o = some key → f key2 key < 0 → Least f hd (j + 1) k (j : Int) (some key2)) := Lib.hid (by
            intro key ho hlt
            have h0 := HB.out
            subst ho
            refine ⟨⟨j, rfl, HJL.out.1, hhd⟩, ?_⟩
            intro x hx key3 h6 h7
            by_cases q : x = j
            · rw [q, hhd] at h6
              injection h6 with h6
              have h8 := (HORD.out.zero key2 key2).2 rfl
              rw [← h6] at h7
              omega
            · exact h0.2 x (by omega) key3 h6 (HORD.out.trans _ _ _ h7 hlt))
          have HKEEP : Hid (∀ key, o = some key → ¬ f key2 key < 0 → Least f hd (j + 1) k i2 (some key)) := Lib.hid (by
            intro key ho hlt
            have h0 := HB.out
            subst ho
            refine ⟨h0.1, ?_⟩
            intro x hx key3 h6
            by_cases q : x = j
            · rw [q, hhd] at h6
              injection h6 with h6
              rw [← h6]; exact hlt
            · exact h0.2 x (by omega) key3 h6)
          have HNEW : Hid (o = none → Least f hd (j + 1) k (j : Int) (some key2)) := Lib.hid (by
            intro ho
            have h0 := HB.out
            subst ho
            refine ⟨⟨j, rfl, HJL.out.1, hhd⟩, ?_⟩
            intro x hx key3 h6 h7
            by_cases q : x = j
            · rw [q, hhd] at h6
              injection h6 with h6
              have h8 := (HORD.out.zero key2 key2).2 rfl
              rw [← h6] at h7
              omega
            · have h9 := h0 x (by omega)
              rw [h9] at h6
              cases h6)
          clear hhd
          cases o with
          | none =>
            have hv : u3 = .slice none 0 0 := HV.out
            subst hv
            have HM2 : Hid ((wr.setCell ⟨m, 4, none⟩ (.int .i64 (j : Int))).heap[m]? = some (mgO (.iface T u) its kb k (j : Int) 3)) := Lib.hid ((blk_set HM.out 4 _).trans rfl)
            have HF2 := Lib.hid (HF.out.setCell (p := ⟨m, 4, none⟩) (.inl rfl) (.int .i64 (j : Int)))
            have HV2 : Hid (KyV (wr.setCell ⟨m, 4, none⟩ (.int .i64 (j : Int))) R (some key2) (.slice (some a2) key2.length c2)) := Lib.hid ⟨a2, c2, rfl, Kd.F_step H4.out.1 (fun q hq _ => Below.heap_setCell _ _ _ q (HH.out.2.2.2.1 q hq)), H4.out.2⟩
            go_wp2
            go_roundg (gk - 1)
            case measure => exact round_less HJL.out.1 HJL.out.2
            case rel => exact ⟨j + 1, some key2, (j : Int), (by first | rfl | exact congrArg _ w1'), Lib.hid (round_next HJL.out.1 HJL.out.2), HV2, Lib.hid (by first | exact HNEW.out rfl | exact HNEW.out trivial), HM2, HF2⟩
          | some key =>
            obtain ⟨a1, c1', rfl, h6, h7⟩ := HV.out
            have HCM := Lib.hid (HCMP.out wr (some a2) (some a1) _ c2 _ c1' key2 key (Kd.F_now H4.out.1) (Kd.F_now h6) H4.out.2 h7)
            have H6 := Lib.hid (And.intro h6 h7)
            clear h6 h7 HV
            by_cases hlt : f key2 key < 0
            · have y0 : decide (f key2 key < 0) = true := decide_eq_true hlt
              have HL := Lib.hid (HLESS.out key rfl hlt)
              clear hlt
              go_wp2_with ((with_reducible refine HCM.out.mono ?_); rintro e w5 ⟨rfl, hb5⟩; have HB5 := Lib.hid hb5; have HM5 := Lib.hid ((hb5.block m (blk_lt HM.out)).trans HM.out); have f4' := blk_frozen HM5.out 4; have q4' : w5.cell? ⟨m, 4, none⟩ = some (.int .i64 i2) := (blk_cell HM5.out 4).trans rfl)
              have HM2 : Hid ((w5.setCell ⟨m, 4, none⟩ (.int .i64 (j : Int))).heap[m]? = some (mgO (.iface T u) its kb k (j : Int) 3)) := Lib.hid ((blk_set HM5.out 4 _).trans rfl)
              have HF2 := Lib.hid ((HF.out.then_ (Fr.of_below HB5.out (fun _ => False)) (fun k hk => hk.elim)).setCell (p := ⟨m, 4, none⟩) (.inl rfl) (.int .i64 (j : Int)))
              have HV2 : Hid (KyV (w5.setCell ⟨m, 4, none⟩ (.int .i64 (j : Int))) R (some key2) (.slice (some a2) key2.length c2)) := Lib.hid ⟨a2, c2, rfl, Kd.F_step (Kd.F_below H4.out.1 HB5.out) (fun q hq _ => Below.heap_setCell _ _ _ q (HH.out.2.2.2.1 q hq)), H4.out.2⟩
              go_roundg (gk - 1)
              case measure => exact round_less HJL.out.1 HJL.out.2
              case rel => exact ⟨j + 1, some key2, (j : Int), (by first | rfl | exact congrArg _ w1'), Lib.hid (round_next HJL.out.1 HJL.out.2), HV2, HL, HM2, HF2⟩
            · have y0 : decide (f key2 key < 0) = false := decide_eq_false hlt
              have HL := Lib.hid (HKEEP.out key rfl hlt)
              clear hlt
              go_wp2_with ((with_reducible refine HCM.out.mono ?_); rintro e w5 ⟨rfl, hb5⟩; have HB5 := Lib.hid hb5; have HM5 := Lib.hid ((hb5.block m (blk_lt HM.out)).trans HM.out))
              have HF2 := Lib.hid (HF.out.then_ (Fr.of_below HB5.out (fun _ => False)) (fun k hk => hk.elim))
              have HV2 : Hid (KyV w5 R (some key) (.slice (some a1) key.length c1')) := Lib.hid ⟨a1, c1', rfl, Kd.F_below H6.out.1 HB5.out, H6.out.2⟩
              go_roundg (gk - 1)
              case measure => exact round_less HJL.out.1 HJL.out.2
              case rel => exact ⟨j + 1, some key, i2, (by first | rfl | exact congrArg _ w1'), Lib.hid (round_next HJL.out.1 HJL.out.2), HV2, HL, HM5, HF2⟩
      · have z0 : decide ((j : Int) < (k : Int)) = false := decide_eq_false (by omega)
        have z2 : ¬ (j : Int) < (k : Int) := by omega
        have HJN := Lib.hid (show j = k by have := HJ.out.1; omega)
        have f5 := blk_frozen HM.out 5
        have q5 : wr.cell? ⟨m, 5, none⟩ = some (.int .i64 3) := (blk_cell HM.out 5).trans rfl
        cases o with
        | none =>
          have hv : u3 = .slice none 0 0 := HV.out
          subst hv
          have HM2 : Hid ((wr.setCell ⟨m, 5, none⟩ (.int .i64 1)).heap[m]? = some (mgO (.iface T u) its kb k i2 1)) := Lib.hid ((blk_set HM.out 5 _).trans rfl)
          have HF2 := Lib.hid (HF.out.setCell (p := ⟨m, 5, none⟩) (.inl rfl) (.int .i64 1))
          go_wp2
          go_ret
          exact ⟨false, i2, rfl, HM2, HF2, Lib.hid (by have := HB.out; rw [HJN.out] at this; exact this)⟩
        | some key =>
          obtain ⟨a1, c1', rfl, h6, h7⟩ := HV.out
          have HM2 : Hid ((wr.setCell ⟨m, 5, none⟩ (.int .i64 3)).heap[m]? = some (mgO (.iface T u) its kb k i2 3)) := Lib.hid ((blk_set HM.out 5 _).trans rfl)
          have HF2 := Lib.hid (HF.out.setCell (p := ⟨m, 5, none⟩) (.inl rfl) (.int .i64 3))
          clear h6 h7
          go_wp2
          go_ret
          exact ⟨true, i2, rfl, HM2, HF2, Lib.hid ⟨key, by have := HB.out; rw [HJN.out] at this; exact this⟩⟩
  · obtain ⟨v0, hv0⟩ : ∃ v0 : Value, v0 = .slice none 0 0 := ⟨_, rfl⟩
    have HV0 : Hid (KyV w R none v0) := Lib.hid hv0
    have HB0 : Hid (Least f hd 0 k i none) := Lib.hid (fun x hx => by omega)
    have HM0 : Hid (w.heap[m]? = some (mgO (.iface T u) its kb k i d)) := Lib.hid HH.out.1
    have HF0 : Hid (Fr w w (fun q => q = m)) := Lib.hid (Fr.refl _ _)
    have HK0 := Lib.hid hk
    obtain ⟨o0, ho0⟩ : ∃ o0 : Option (List Int), o0 = none := ⟨_, rfl⟩
    rw [← ho0] at HV0 HB0
    have y9 : (d == 3) = false := by rw [beq_eq_false_iff_ne]; exact hd0
    clear hi hk hd0 ho0
    subst hv0
    have HW0 : Hid (Below w.heap.size w w) := Lib.hid (Below.refl _ _)
    go_enter Tryz.func222, Tryz.ntmps222
    have r3'' : w.cell? ⟨m, 3, none⟩ = some (.slice (some ⟨kb, 0, none⟩) k k) := (blk_cell HH.out.1 3).trans rfl
    go_wp2
    go_loopg [3, 26] k (fun kk v3 v26 w' => ∃ (j : Nat) (o : Option (List Int)) (i2 : Int), v26 = .int .i64 (j : Int) ∧ Hid (j ≤ k ∧ k ≤ j + kk) ∧ Hid (KyV w' R o v3) ∧ Hid (Least f hd j k i2 o) ∧ Hid (w'.heap[m]? = some (mgO (.iface T u) its kb k i2 d)) ∧ Hid (Fr w w' (fun q => q = m)))
    case atStart => exact ⟨0, o0, i, rfl, Lib.hid ⟨Nat.zero_le _, by omega⟩, HV0, HB0, HM0, HF0⟩
    case round =>
      obtain ⟨j, o, i2, rfl, HJ, HV, HB, HM, HF⟩ := hrel
      by_cases hj : j < k
      · have z0 : decide ((j : Int) < (k : Int)) = true := decide_eq_true (by omega)
        have z2 : (j : Int) < (k : Int) := by omega
        have HJL := Lib.hid (And.intro hj HJ.out.2)
        have w1' : wrap64 ((j : Int) + 1) = (j : Int) + 1 := wz (by omega) (by have := HH.out.2.2.2.2.2; omega)
        obtain ⟨v, h1, h2⟩ := HK0.out.2 j hj
        have hkb2 : wr.heap[kb]? = some (.cells ka 25 (0, 0)) := (HF.out.block kb (blk_lt HH.out.2.1) HH.out.2.2.1).trans HH.out.2.1
        have c1 : wr.cell? ⟨kb, j, none⟩ = some v := (blk_cell hkb2 j).trans h1
        have h3 := h2.step (w1 := wr) (fun q hq hlt => HF.out.block q hlt (HH.out.2.2.2.1 q hq))
        have f4 := blk_frozen HM.out 4
        have q0 : wr.cell? ⟨m, 0, none⟩ = some (.iface T u) := (blk_cell HM.out 0).trans rfl
        have q4 : wr.cell? ⟨m, 4, none⟩ = some (.int .i64 i2) := (blk_cell HM.out 4).trans rfl
        clear hj h1 h2 hkb2
        cases hhd : hd j with
        | none =>
          rw [hhd] at h3
          have h3' : v = .slice none 0 0 := h3
          subst h3'
          have HB2 : Hid (Least f hd (j + 1) k i2 o) := Lib.hid (by
            have h0 := HB.out
            cases o with
            | none =>
              intro x hx
              by_cases q : x = j
              · rw [q]; exact hhd
              · exact h0 x (by omega)
            | some key =>
              refine ⟨h0.1, ?_⟩
              intro x hx key2 h4
              by_cases q : x = j
              · rw [q, hhd] at h4; cases h4
              · exact h0.2 x (by omega) key2 h4)
          clear h3 hhd
          go_wp2
          go_roundg (gk - 1)
          case measure => exact round_less HJL.out.1 HJL.out.2
          case rel => exact ⟨j + 1, o, i2, (by first | rfl | exact congrArg _ w1'), Lib.hid (round_next HJL.out.1 HJL.out.2), HV, HB2, HM, HF⟩
        | some key2 =>
          rw [hhd] at h3
          obtain ⟨a2, c2, rfl, h4, h5⟩ := h3
          have H4 := Lib.hid (And.intro h4 h5)
          clear h4 h5
          have HLESS : Hid (∀ key, o = some key → f key2 key < 0 → Least f hd (j + 1) k (j : Int) (some key2)) := Lib.hid (by
            intro key ho hlt
            have h0 := HB.out
            subst ho
            refine ⟨⟨j, rfl, HJL.out.1, hhd⟩, ?_⟩
            intro x hx key3 h6 h7
            by_cases q : x = j
            · rw [q, hhd] at h6
              injection h6 with h6
              have h8 := (HORD.out.zero key2 key2).2 rfl
              rw [← h6] at h7
              omega
            · exact h0.2 x (by omega) key3 h6 (HORD.out.trans _ _ _ h7 hlt))
          have HKEEP : Hid (∀ key, o = some key → ¬ f key2 key < 0 → Least f hd (j + 1) k i2 (some key)) := Lib.hid (by
            intro key ho hlt
            have h0 := HB.out
            subst ho
            refine ⟨h0.1, ?_⟩
            intro x hx key3 h6
            by_cases q : x = j
            · rw [q, hhd] at h6
              injection h6 with h6
              rw [← h6]; exact hlt
            · exact h0.2 x (by omega) key3 h6)
          have HNEW : Hid (o = none → Least f hd (j + 1) k (j : Int) (some key2)) := Lib.hid (by
            intro ho
            have h0 := HB.out
            subst ho
            refine ⟨⟨j, rfl, HJL.out.1, hhd⟩, ?_⟩
            intro x hx key3 h6 h7
            by_cases q : x = j
            · rw [q, hhd] at h6
              injection h6 with h6
              have h8 := (HORD.out.zero key2 key2).2 rfl
              rw [← h6] at h7
              omega
            · have h9 := h0 x (by omega)
              rw [h9] at h6
              cases h6)
          clear hhd
          cases o with
          | none =>
            have hv : u3 = .slice none 0 0 := HV.out
            subst hv
            have HM2 : Hid ((wr.setCell ⟨m, 4, none⟩ (.int .i64 (j : Int))).heap[m]? = some (mgO (.iface T u) its kb k (j : Int) d)) := Lib.hid ((blk_set HM.out 4 _).trans rfl)
            have HF2 := Lib.hid (HF.out.setCell (p := ⟨m, 4, none⟩) (.inl rfl) (.int .i64 (j : Int)))
            have HV2 : Hid (KyV (wr.setCell ⟨m, 4, none⟩ (.int .i64 (j : Int))) R (some key2) (.slice (some a2) key2.length c2)) := Lib.hid ⟨a2, c2, rfl, Kd.F_step H4.out.1 (fun q hq _ => Below.heap_setCell _ _ _ q (HH.out.2.2.2.1 q hq)), H4.out.2⟩
            go_wp2
            go_roundg (gk - 1)
            case measure => exact round_less HJL.out.1 HJL.out.2
            case rel => exact ⟨j + 1, some key2, (j : Int), (by first | rfl | exact congrArg _ w1'), Lib.hid (round_next HJL.out.1 HJL.out.2), HV2, Lib.hid (by first | exact HNEW.out rfl | exact HNEW.out trivial), HM2, HF2⟩
          | some key =>
            obtain ⟨a1, c1', rfl, h6, h7⟩ := HV.out
            have HCM := Lib.hid (HCMP.out wr (some a2) (some a1) _ c2 _ c1' key2 key (Kd.F_now H4.out.1) (Kd.F_now h6) H4.out.2 h7)
            have H6 := Lib.hid (And.intro h6 h7)
            clear h6 h7 HV
            by_cases hlt : f key2 key < 0
            · have y0 : decide (f key2 key < 0) = true := decide_eq_true hlt
              have HL := Lib.hid (HLESS.out key rfl hlt)
              clear hlt
              go_wp2_with ((with_reducible refine HCM.out.mono ?_); rintro e w5 ⟨rfl, hb5⟩; have HB5 := Lib.hid hb5; have HM5 := Lib.hid ((hb5.block m (blk_lt HM.out)).trans HM.out); have f4' := blk_frozen HM5.out 4; have q4' : w5.cell? ⟨m, 4, none⟩ = some (.int .i64 i2) := (blk_cell HM5.out 4).trans rfl)
              have HM2 : Hid ((w5.setCell ⟨m, 4, none⟩ (.int .i64 (j : Int))).heap[m]? = some (mgO (.iface T u) its kb k (j : Int) d)) := Lib.hid ((blk_set HM5.out 4 _).trans rfl)
              have HF2 := Lib.hid ((HF.out.then_ (Fr.of_below HB5.out (fun _ => False)) (fun k hk => hk.elim)).setCell (p := ⟨m, 4, none⟩) (.inl rfl) (.int .i64 (j : Int)))
              have HV2 : Hid (KyV (w5.setCell ⟨m, 4, none⟩ (.int .i64 (j : Int))) R (some key2) (.slice (some a2) key2.length c2)) := Lib.hid ⟨a2, c2, rfl, Kd.F_step (Kd.F_below H4.out.1 HB5.out) (fun q hq _ => Below.heap_setCell _ _ _ q (HH.out.2.2.2.1 q hq)), H4.out.2⟩
              go_roundg (gk - 1)
              case measure => exact round_less HJL.out.1 HJL.out.2
              case rel => exact ⟨j + 1, some key2, (j : Int), (by first | rfl | exact congrArg _ w1'), Lib.hid (round_next HJL.out.1 HJL.out.2), HV2, HL, HM2, HF2⟩
            · have y0 : decide (f key2 key < 0) = false := decide_eq_false hlt
              have HL := Lib.hid (HKEEP.out key rfl hlt)
              clear hlt
              go_wp2_with ((with_reducible refine HCM.out.mono ?_); rintro e w5 ⟨rfl, hb5⟩; have HB5 := Lib.hid hb5; have HM5 := Lib.hid ((hb5.block m (blk_lt HM.out)).trans HM.out))
              have HF2 := Lib.hid (HF.out.then_ (Fr.of_below HB5.out (fun _ => False)) (fun k hk => hk.elim))
              have HV2 : Hid (KyV w5 R (some key) (.slice (some a1) key.length c1')) := Lib.hid ⟨a1, c1', rfl, Kd.F_below H6.out.1 HB5.out, H6.out.2⟩
              go_roundg (gk - 1)
              case measure => exact round_less HJL.out.1 HJL.out.2
              case rel => exact ⟨j + 1, some key, i2, (by first | rfl | exact congrArg _ w1'), Lib.hid (round_next HJL.out.1 HJL.out.2), HV2, HL, HM5, HF2⟩
      · have z0 : decide ((j : Int) < (k : Int)) = false := decide_eq_false (by omega)
        have z2 : ¬ (j : Int) < (k : Int) := by omega
        have HJN := Lib.hid (show j = k by have := HJ.out.1; omega)
        have f5 := blk_frozen HM.out 5
        have q5 : wr.cell? ⟨m, 5, none⟩ = some (.int .i64 d) := (blk_cell HM.out 5).trans rfl
        cases o with
        | none =>
          have hv : u3 = .slice none 0 0 := HV.out
          subst hv
          have HM2 : Hid ((wr.setCell ⟨m, 5, none⟩ (.int .i64 1)).heap[m]? = some (mgO (.iface T u) its kb k i2 1)) := Lib.hid ((blk_set HM.out 5 _).trans rfl)
          have HF2 := Lib.hid (HF.out.setCell (p := ⟨m, 5, none⟩) (.inl rfl) (.int .i64 1))
          go_wp2
          go_ret
          exact ⟨false, i2, rfl, HM2, HF2, Lib.hid (by have := HB.out; rw [HJN.out] at this; exact this)⟩
        | some key =>
          obtain ⟨a1, c1', rfl, h6, h7⟩ := HV.out
          have HM2 : Hid ((wr.setCell ⟨m, 5, none⟩ (.int .i64 3)).heap[m]? = some (mgO (.iface T u) its kb k i2 3)) := Lib.hid ((blk_set HM.out 5 _).trans rfl)
          have HF2 := Lib.hid (HF.out.setCell (p := ⟨m, 5, none⟩) (.inl rfl) (.int .i64 3))
          clear h6 h7
          go_wp2
          go_ret
          exact ⟨true, i2, rfl, HM2, HF2, Lib.hid ⟨key, by have := HB.out; rw [HJN.out] at this; exact this⟩⟩

def Most (f : List Int → List Int → Int) (hd : Nat → Option (List Int)) (j k : Nat) (i : Int) (o : Option (List Int)) : Prop :=
  match o with
  | none => ∀ x, x < j → hd x = none
  | some key => (∃ n : Nat, i = (n : Int) ∧ n < k ∧ hd n = some key) ∧ ∀ x, x < j → ∀ key2, hd x = some key2 → ¬ 0 < f key2 key
def PvScan (f : List Int → List Int → Int) (V its : Value) (m kb k : Nat) (hd : Nat → Option (List Int)) (w : World) (e : Ending) (w' : World) : Prop :=
  ∃ (bb : Bool) (i : Int), e = .returned (.bool bb) ∧ Hid (w'.heap[m]? = some (mgO V its kb k i (if bb = true then 2 else 0))) ∧ Hid (Fr w w' (fun q => q = m)) ∧ Hid (if bb = true then ∃ key, Most f hd k k i (some key) else Most f hd k k i none)

set_option maxHeartbeats 6400000 in
set_option maxRecDepth 100000 in
theorem mgPrev_scan {V its : Value} {f : List Int → List Int → Int} {m kb k : Nat} {i d : Int} {R : Nat → Prop} {ka : Array Value} {hd : Nat → Option (List Int)} {w : World} (hV : Cmpr V f) (hm : w.heap[m]? = some (mgO V its kb k i d)) (hkb : w.heap[kb]? = some (.cells ka 25 (0, 0))) (hne : kb ≠ m) (hR : ∀ q, R q → q ≠ m) (hk : KyAt w R ka k hd) (hi : d = 2 → ∃ n : Nat, i = (n : Int) ∧ n < k) (hks : k ≤ 4294967296) :
    Calls Tryz.prog 223 #[.pointer (some ⟨m, 0, none⟩)] w fun e w' => PvScan f V its m kb k hd w e w' := by
  obtain ⟨T, u, K, rfl, hnil, hmeth, hcall, hcmp⟩ := hV.make
  have HORD := Lib.hid hV.ord
  have HCMP := Lib.hid hcmp
  have HH := Lib.hid (And.intro hm (And.intro hkb (And.intro hne (And.intro hR (And.intro hk hks)))))
  have r5 : w.cell? ⟨m, 5, none⟩ = some (.int .i64 d) := (blk_cell hm 5).trans rfl
  have r3 : w.cell? ⟨m, 3, none⟩ = some (.slice (some ⟨kb, 0, none⟩) k k) := (blk_cell hm 3).trans rfl
  have r4 : w.cell? ⟨m, 4, none⟩ = some (.int .i64 i) := (blk_cell hm 4).trans rfl
  clear hV hm hkb hne hR hcmp hks
  have sq1 := sl_eq
  have sq2 := sl_ne
  have sq3 := sl_eq0
  have sq4 := sl_ne0
  by_cases hd0 : d = 2
  · subst hd0
    obtain ⟨n, rfl, hn⟩ := hi rfl
    obtain ⟨v0, h1, h2⟩ := hk.2 n hn
    have HV0 := Lib.hid (h2.step (w1 := w.drew) (fun q _ hq => rfl))
    have HB0 : Hid (Most f hd 0 k (n : Int) (hd n)) := Lib.hid (by
      cases hh : hd n with
      | none => exact fun x hx => by omega
      | some key => exact ⟨⟨n, rfl, hn, hh⟩, fun x hx => by omega⟩)
    have c0 : w.drew.cell? ⟨kb, n, none⟩ = some v0 := (blk_cell HH.out.2.1 n).trans h1
    have r3' : w.drew.cell? ⟨m, 3, none⟩ = some (.slice (some ⟨kb, 0, none⟩) k k) := r3
    have r4' : w.drew.cell? ⟨m, 4, none⟩ = some (.int .i64 (n : Int)) := r4
    have HM0 : Hid (w.drew.heap[m]? = some (mgO (.iface T u) its kb k (n : Int) 2)) := Lib.hid HH.out.1
    have HF0 : Hid (Fr w w.drew (fun q => q = m)) := Lib.hid (Fr.of_below (below_drew (Below.refl _ _)) _)
    have HK0 := Lib.hid hk
    have v1 : (n : Int) < (k : Int) := by omega
    clear hi h1 h2 hk hn
    generalize hd n = o0 at *
    go_enter Tryz.func223, Tryz.ntmps223
    go_upto_region 3 with (fail)
    go_region
    generalize w.drew = w0 at *
    have r3'' : w0.cell? ⟨m, 3, none⟩ = some (.slice (some ⟨kb, 0, none⟩) k k) := (blk_cell HM0.out 3).trans rfl
    go_wp2
    go_loopg [3, 26] k (fun kk v3 v26 w' => ∃ (j : Nat) (o : Option (List Int)) (i2 : Int), v26 = .int .i64 (j : Int) ∧ Hid (j ≤ k ∧ k ≤ j + kk) ∧ Hid (KyV w' R o v3) ∧ Hid (Most f hd j k i2 o) ∧ Hid (w'.heap[m]? = some (mgO (.iface T u) its kb k i2 2)) ∧ Hid (Fr w w' (fun q => q = m)))
    case atStart => exact ⟨0, o0, (n : Int), rfl, Lib.hid ⟨Nat.zero_le _, by omega⟩, HV0, HB0, HM0, HF0⟩
    case round =>
      obtain ⟨j, o, i2, rfl, HJ, HV, HB, HM, HF⟩ := hrel
      by_cases hj : j < k
      · have z0 : decide ((j : Int) < (k : Int)) = true := decide_eq_true (by omega)
        have z2 : (j : Int) < (k : Int) := by omega
        have HJL := Lib.hid (And.intro hj HJ.out.2)
        have w1' : wrap64 ((j : Int) + 1) = (j : Int) + 1 := wz (by omega) (by have := HH.out.2.2.2.2.2; omega)
        obtain ⟨v, h1, h2⟩ := HK0.out.2 j hj
        have hkb2 : wr.heap[kb]? = some (.cells ka 25 (0, 0)) := (HF.out.block kb (blk_lt HH.out.2.1) HH.out.2.2.1).trans HH.out.2.1
        have c1 : wr.cell? ⟨kb, j, none⟩ = some v := (blk_cell hkb2 j).trans h1
        have h3 := h2.step (w1 := wr) (fun q hq hlt => HF.out.block q hlt (HH.out.2.2.2.1 q hq))
        have f4 := blk_frozen HM.out 4
        have q0 : wr.cell? ⟨m, 0, none⟩ = some (.iface T u) := (blk_cell HM.out 0).trans rfl
        have q4 : wr.cell? ⟨m, 4, none⟩ = some (.int .i64 i2) := (blk_cell HM.out 4).trans rfl
        clear hj h1 h2 hkb2
        cases hhd : hd j with
        | none =>
          rw [hhd] at h3
          have h3' : v = .slice none 0 0 := h3
          subst h3'
          have HB2 : Hid (Most f hd (j + 1) k i2 o) := Lib.hid (by
            have h0 := HB.out
            cases o with
            | none =>
              intro x hx
              by_cases q : x = j
              · rw [q]; exact hhd
              · exact h0 x (by omega)
            | some key =>
              refine ⟨h0.1, ?_⟩
              intro x hx key2 h4
              by_cases q : x = j
              · rw [q, hhd] at h4; cases h4
              · exact h0.2 x (by omega) key2 h4)
          clear h3 hhd
          go_wp2
          go_roundg (gk - 1)
          case measure => exact round_less HJL.out.1 HJL.out.2
          case rel => exact ⟨j + 1, o, i2, (by first | rfl | exact congrArg _ w1'), Lib.hid (round_next HJL.out.1 HJL.out.2), HV, HB2, HM, HF⟩
        | some key2 =>
          rw [hhd] at h3
          obtain ⟨a2, c2, rfl, h4, h5⟩ := h3
          have H4 := Lib.hid (And.intro h4 h5)
          clear h4 h5
          have HLESS : Hid (∀ key, o = some key → 0 < f key2 key → Most f hd (j + 1) k (j : Int) (some key2)) := Lib.hid (by
            intro key ho hlt
            have h0 := HB.out
            subst ho
            refine ⟨⟨j, rfl, HJL.out.1, hhd⟩, ?_⟩
            intro x hx key3 h6 h7
            by_cases q : x = j
            · rw [q, hhd] at h6
              injection h6 with h6
              have h8 := (HORD.out.zero key2 key2).2 rfl
              rw [← h6] at h7
              omega
            · exact h0.2 x (by omega) key3 h6 ((by have e1 := HORD.out.swap key3 key2; have e2 := HORD.out.swap key2 key; have e3 := HORD.out.swap key3 key; have e4 := HORD.out.trans key key2 key3 (by omega) (by omega); omega)))
          have HKEEP : Hid (∀ key, o = some key → ¬ 0 < f key2 key → Most f hd (j + 1) k i2 (some key)) := Lib.hid (by
            intro key ho hlt
            have h0 := HB.out
            subst ho
            refine ⟨h0.1, ?_⟩
            intro x hx key3 h6
            by_cases q : x = j
            · rw [q, hhd] at h6
              injection h6 with h6
              rw [← h6]; exact hlt
            · exact h0.2 x (by omega) key3 h6)
          have HNEW : Hid (o = none → Most f hd (j + 1) k (j : Int) (some key2)) := Lib.hid (by
            intro ho
            have h0 := HB.out
            subst ho
            refine ⟨⟨j, rfl, HJL.out.1, hhd⟩, ?_⟩
            intro x hx key3 h6 h7
            by_cases q : x = j
            · rw [q, hhd] at h6
              injection h6 with h6
              have h8 := (HORD.out.zero key2 key2).2 rfl
              rw [← h6] at h7
              omega
            · have h9 := h0 x (by omega)
              rw [h9] at h6
              cases h6)
          clear hhd
          cases o with
          | none =>
            have hv : u3 = .slice none 0 0 := HV.out
            subst hv
            have HM2 : Hid ((wr.setCell ⟨m, 4, none⟩ (.int .i64 (j : Int))).heap[m]? = some (mgO (.iface T u) its kb k (j : Int) 2)) := Lib.hid ((blk_set HM.out 4 _).trans rfl)
            have HF2 := Lib.hid (HF.out.setCell (p := ⟨m, 4, none⟩) (.inl rfl) (.int .i64 (j : Int)))
            have HV2 : Hid (KyV (wr.setCell ⟨m, 4, none⟩ (.int .i64 (j : Int))) R (some key2) (.slice (some a2) key2.length c2)) := Lib.hid ⟨a2, c2, rfl, Kd.F_step H4.out.1 (fun q hq _ => Below.heap_setCell _ _ _ q (HH.out.2.2.2.1 q hq)), H4.out.2⟩
            go_wp2
            go_roundg (gk - 1)
            case measure => exact round_less HJL.out.1 HJL.out.2
            case rel => exact ⟨j + 1, some key2, (j : Int), (by first | rfl | exact congrArg _ w1'), Lib.hid (round_next HJL.out.1 HJL.out.2), HV2, Lib.hid (by first | exact HNEW.out rfl | exact HNEW.out trivial), HM2, HF2⟩
          | some key =>
            obtain ⟨a1, c1', rfl, h6, h7⟩ := HV.out
            have HCM := Lib.hid (HCMP.out wr (some a2) (some a1) _ c2 _ c1' key2 key (Kd.F_now H4.out.1) (Kd.F_now h6) H4.out.2 h7)
            have H6 := Lib.hid (And.intro h6 h7)
            clear h6 h7 HV
            by_cases hlt : 0 < f key2 key
            · have y0 : decide (0 < f key2 key) = true := decide_eq_true hlt
              have HL := Lib.hid (HLESS.out key rfl hlt)
              clear hlt
              go_wp2_with ((with_reducible refine HCM.out.mono ?_); rintro e w5 ⟨rfl, hb5⟩; have HB5 := Lib.hid hb5; have HM5 := Lib.hid ((hb5.block m (blk_lt HM.out)).trans HM.out); have f4' := blk_frozen HM5.out 4; have q4' : w5.cell? ⟨m, 4, none⟩ = some (.int .i64 i2) := (blk_cell HM5.out 4).trans rfl)
              have HM2 : Hid ((w5.setCell ⟨m, 4, none⟩ (.int .i64 (j : Int))).heap[m]? = some (mgO (.iface T u) its kb k (j : Int) 2)) := Lib.hid ((blk_set HM5.out 4 _).trans rfl)
              have HF2 := Lib.hid ((HF.out.then_ (Fr.of_below HB5.out (fun _ => False)) (fun k hk => hk.elim)).setCell (p := ⟨m, 4, none⟩) (.inl rfl) (.int .i64 (j : Int)))
              have HV2 : Hid (KyV (w5.setCell ⟨m, 4, none⟩ (.int .i64 (j : Int))) R (some key2) (.slice (some a2) key2.length c2)) := Lib.hid ⟨a2, c2, rfl, Kd.F_step (Kd.F_below H4.out.1 HB5.out) (fun q hq _ => Below.heap_setCell _ _ _ q (HH.out.2.2.2.1 q hq)), H4.out.2⟩
              go_roundg (gk - 1)
              case measure => exact round_less HJL.out.1 HJL.out.2
              case rel => exact ⟨j + 1, some key2, (j : Int), (by first | rfl | exact congrArg _ w1'), Lib.hid (round_next HJL.out.1 HJL.out.2), HV2, HL, HM2, HF2⟩
            · have y0 : decide (0 < f key2 key) = false := decide_eq_false hlt
              have HL := Lib.hid (HKEEP.out key rfl hlt)
              clear hlt
              go_wp2_with ((with_reducible refine HCM.out.mono ?_); rintro e w5 ⟨rfl, hb5⟩; have HB5 := Lib.hid hb5; have HM5 := Lib.hid ((hb5.block m (blk_lt HM.out)).trans HM.out))
              have HF2 := Lib.hid (HF.out.then_ (Fr.of_below HB5.out (fun _ => False)) (fun k hk => hk.elim))
              have HV2 : Hid (KyV w5 R (some key) (.slice (some a1) key.length c1')) := Lib.hid ⟨a1, c1', rfl, Kd.F_below H6.out.1 HB5.out, H6.out.2⟩
              go_roundg (gk - 1)
              case measure => exact round_less HJL.out.1 HJL.out.2
              case rel => exact ⟨j + 1, some key, i2, (by first | rfl | exact congrArg _ w1'), Lib.hid (round_next HJL.out.1 HJL.out.2), HV2, HL, HM5, HF2⟩
      · have z0 : decide ((j : Int) < (k : Int)) = false := decide_eq_false (by omega)
        have z2 : ¬ (j : Int) < (k : Int) := by omega
        have HJN := Lib.hid (show j = k by have := HJ.out.1; omega)
        have f5 := blk_frozen HM.out 5
        have q5 : wr.cell? ⟨m, 5, none⟩ = some (.int .i64 2) := (blk_cell HM.out 5).trans rfl
        cases o with
        | none =>
          have hv : u3 = .slice none 0 0 := HV.out
          subst hv
          have HM2 : Hid ((wr.setCell ⟨m, 5, none⟩ (.int .i64 0)).heap[m]? = some (mgO (.iface T u) its kb k i2 0)) := Lib.hid ((blk_set HM.out 5 _).trans rfl)
          have HF2 := Lib.hid (HF.out.setCell (p := ⟨m, 5, none⟩) (.inl rfl) (.int .i64 0))
          go_wp2
          go_ret
          exact ⟨false, i2, rfl, HM2, HF2, Lib.hid (by have := HB.out; rw [HJN.out] at this; exact this)⟩
        | some key =>
          obtain ⟨a1, c1', rfl, h6, h7⟩ := HV.out
          have HM2 : Hid ((wr.setCell ⟨m, 5, none⟩ (.int .i64 2)).heap[m]? = some (mgO (.iface T u) its kb k i2 2)) := Lib.hid ((blk_set HM.out 5 _).trans rfl)
          have HF2 := Lib.hid (HF.out.setCell (p := ⟨m, 5, none⟩) (.inl rfl) (.int .i64 2))
          clear h6 h7
          go_wp2
          go_ret
          exact ⟨true, i2, rfl, HM2, HF2, Lib.hid ⟨key, by have := HB.out; rw [HJN.out] at this; exact this⟩⟩
  · obtain ⟨v0, hv0⟩ : ∃ v0 : Value, v0 = .slice none 0 0 := ⟨_, rfl⟩
    have HV0 : Hid (KyV w R none v0) := Lib.hid hv0
    have HB0 : Hid (Most f hd 0 k i none) := Lib.hid (fun x hx => by omega)
    have HM0 : Hid (w.heap[m]? = some (mgO (.iface T u) its kb k i d)) := Lib.hid HH.out.1
    have HF0 : Hid (Fr w w (fun q => q = m)) := Lib.hid (Fr.refl _ _)
    have HK0 := Lib.hid hk
    obtain ⟨o0, ho0⟩ : ∃ o0 : Option (List Int), o0 = none := ⟨_, rfl⟩
    rw [← ho0] at HV0 HB0
    have y9 : (d == 2) = false := by rw [beq_eq_false_iff_ne]; exact hd0
    clear hi hk hd0 ho0
    subst hv0
    have HW0 : Hid (Below w.heap.size w w) := Lib.hid (Below.refl _ _)
    go_enter Tryz.func223, Tryz.ntmps223
    have r3'' : w.cell? ⟨m, 3, none⟩ = some (.slice (some ⟨kb, 0, none⟩) k k) := (blk_cell HH.out.1 3).trans rfl
    go_wp2
    go_loopg [3, 26] k (fun kk v3 v26 w' => ∃ (j : Nat) (o : Option (List Int)) (i2 : Int), v26 = .int .i64 (j : Int) ∧ Hid (j ≤ k ∧ k ≤ j + kk) ∧ Hid (KyV w' R o v3) ∧ Hid (Most f hd j k i2 o) ∧ Hid (w'.heap[m]? = some (mgO (.iface T u) its kb k i2 d)) ∧ Hid (Fr w w' (fun q => q = m)))
    case atStart => exact ⟨0, o0, i, rfl, Lib.hid ⟨Nat.zero_le _, by omega⟩, HV0, HB0, HM0, HF0⟩
    case round =>
      obtain ⟨j, o, i2, rfl, HJ, HV, HB, HM, HF⟩ := hrel
      by_cases hj : j < k
      · have z0 : decide ((j : Int) < (k : Int)) = true := decide_eq_true (by omega)
        have z2 : (j : Int) < (k : Int) := by omega
        have HJL := Lib.hid (And.intro hj HJ.out.2)
        have w1' : wrap64 ((j : Int) + 1) = (j : Int) + 1 := wz (by omega) (by have := HH.out.2.2.2.2.2; omega)
        obtain ⟨v, h1, h2⟩ := HK0.out.2 j hj
        have hkb2 : wr.heap[kb]? = some (.cells ka 25 (0, 0)) := (HF.out.block kb (blk_lt HH.out.2.1) HH.out.2.2.1).trans HH.out.2.1
        have c1 : wr.cell? ⟨kb, j, none⟩ = some v := (blk_cell hkb2 j).trans h1
        have h3 := h2.step (w1 := wr) (fun q hq hlt => HF.out.block q hlt (HH.out.2.2.2.1 q hq))
        have f4 := blk_frozen HM.out 4
        have q0 : wr.cell? ⟨m, 0, none⟩ = some (.iface T u) := (blk_cell HM.out 0).trans rfl
        have q4 : wr.cell? ⟨m, 4, none⟩ = some (.int .i64 i2) := (blk_cell HM.out 4).trans rfl
        clear hj h1 h2 hkb2
        cases hhd : hd j with
        | none =>
          rw [hhd] at h3
          have h3' : v = .slice none 0 0 := h3
          subst h3'
          have HB2 : Hid (Most f hd (j + 1) k i2 o) := Lib.hid (by
            have h0 := HB.out
            cases o with
            | none =>
              intro x hx
              by_cases q : x = j
              · rw [q]; exact hhd
              · exact h0 x (by omega)
            | some key =>
              refine ⟨h0.1, ?_⟩
              intro x hx key2 h4
              by_cases q : x = j
              · rw [q, hhd] at h4; cases h4
              · exact h0.2 x (by omega) key2 h4)
          clear h3 hhd
          go_wp2
          go_roundg (gk - 1)
          case measure => exact round_less HJL.out.1 HJL.out.2
          case rel => exact ⟨j + 1, o, i2, (by first | rfl | exact congrArg _ w1'), Lib.hid (round_next HJL.out.1 HJL.out.2), HV, HB2, HM, HF⟩
        | some key2 =>
          rw [hhd] at h3
          obtain ⟨a2, c2, rfl, h4, h5⟩ := h3
          have H4 := Lib.hid (And.intro h4 h5)
          clear h4 h5
          have HLESS : Hid (∀ key, o = some key → 0 < f key2 key → Most f hd (j + 1) k (j : Int) (some key2)) := Lib.hid (by
            intro key ho hlt
            have h0 := HB.out
            subst ho
            refine ⟨⟨j, rfl, HJL.out.1, hhd⟩, ?_⟩
            intro x hx key3 h6 h7
            by_cases q : x = j
            · rw [q, hhd] at h6
              injection h6 with h6
              have h8 := (HORD.out.zero key2 key2).2 rfl
              rw [← h6] at h7
              omega
            · exact h0.2 x (by omega) key3 h6 ((by have e1 := HORD.out.swap key3 key2; have e2 := HORD.out.swap key2 key; have e3 := HORD.out.swap key3 key; have e4 := HORD.out.trans key key2 key3 (by omega) (by omega); omega)))
          have HKEEP : Hid (∀ key, o = some key → ¬ 0 < f key2 key → Most f hd (j + 1) k i2 (some key)) := Lib.hid (by
            intro key ho hlt
            have h0 := HB.out
            subst ho
            refine ⟨h0.1, ?_⟩
            intro x hx key3 h6
            by_cases q : x = j
            · rw [q, hhd] at h6
              injection h6 with h6
              rw [← h6]; exact hlt
            · exact h0.2 x (by omega) key3 h6)
          have HNEW : Hid (o = none → Most f hd (j + 1) k (j : Int) (some key2)) := Lib.hid (by
            intro ho
            have h0 := HB.out
            subst ho
            refine ⟨⟨j, rfl, HJL.out.1, hhd⟩, ?_⟩
            intro x hx key3 h6 h7
            by_cases q : x = j
            · rw [q, hhd] at h6
              injection h6 with h6
              have h8 := (HORD.out.zero key2 key2).2 rfl
              rw [← h6] at h7
              omega
            · have h9 := h0 x (by omega)
              rw [h9] at h6
              cases h6)
          clear hhd
          cases o with
          | none =>
            have hv : u3 = .slice none 0 0 := HV.out
            subst hv
            have HM2 : Hid ((wr.setCell ⟨m, 4, none⟩ (.int .i64 (j : Int))).heap[m]? = some (mgO (.iface T u) its kb k (j : Int) d)) := Lib.hid ((blk_set HM.out 4 _).trans rfl)
            have HF2 := Lib.hid (HF.out.setCell (p := ⟨m, 4, none⟩) (.inl rfl) (.int .i64 (j : Int)))
            have HV2 : Hid (KyV (wr.setCell ⟨m, 4, none⟩ (.int .i64 (j : Int))) R (some key2) (.slice (some a2) key2.length c2)) := Lib.hid ⟨a2, c2, rfl, Kd.F_step H4.out.1 (fun q hq _ => Below.heap_setCell _ _ _ q (HH.out.2.2.2.1 q hq)), H4.out.2⟩
            go_wp2
            go_roundg (gk - 1)
            case measure => exact round_less HJL.out.1 HJL.out.2
            case rel => exact ⟨j + 1, some key2, (j : Int), (by first | rfl | exact congrArg _ w1'), Lib.hid (round_next HJL.out.1 HJL.out.2), HV2, Lib.hid (by first | exact HNEW.out rfl | exact HNEW.out trivial), HM2, HF2⟩
          | some key =>
            obtain ⟨a1, c1', rfl, h6, h7⟩ := HV.out
            have HCM := Lib.hid (HCMP.out wr (some a2) (some a1) _ c2 _ c1' key2 key (Kd.F_now H4.out.1) (Kd.F_now h6) H4.out.2 h7)
            have H6 := Lib.hid (And.intro h6 h7)
            clear h6 h7 HV
            by_cases hlt : 0 < f key2 key
            · have y0 : decide (0 < f key2 key) = true := decide_eq_true hlt
              have HL := Lib.hid (HLESS.out key rfl hlt)
              clear hlt
              go_wp2_with ((with_reducible refine HCM.out.mono ?_); rintro e w5 ⟨rfl, hb5⟩; have HB5 := Lib.hid hb5; have HM5 := Lib.hid ((hb5.block m (blk_lt HM.out)).trans HM.out); have f4' := blk_frozen HM5.out 4; have q4' : w5.cell? ⟨m, 4, none⟩ = some (.int .i64 i2) := (blk_cell HM5.out 4).trans rfl)
              have HM2 : Hid ((w5.setCell ⟨m, 4, none⟩ (.int .i64 (j : Int))).heap[m]? = some (mgO (.iface T u) its kb k (j : Int) d)) := Lib.hid ((blk_set HM5.out 4 _).trans rfl)
              have HF2 := Lib.hid ((HF.out.then_ (Fr.of_below HB5.out (fun _ => False)) (fun k hk => hk.elim)).setCell (p := ⟨m, 4, none⟩) (.inl rfl) (.int .i64 (j : Int)))
              have HV2 : Hid (KyV (w5.setCell ⟨m, 4, none⟩ (.int .i64 (j : Int))) R (some key2) (.slice (some a2) key2.length c2)) := Lib.hid ⟨a2, c2, rfl, Kd.F_step (Kd.F_below H4.out.1 HB5.out) (fun q hq _ => Below.heap_setCell _ _ _ q (HH.out.2.2.2.1 q hq)), H4.out.2⟩
              go_roundg (gk - 1)
              case measure => exact round_less HJL.out.1 HJL.out.2
              case rel => exact ⟨j + 1, some key2, (j : Int), (by first | rfl | exact congrArg _ w1'), Lib.hid (round_next HJL.out.1 HJL.out.2), HV2, HL, HM2, HF2⟩
            · have y0 : decide (0 < f key2 key) = false := decide_eq_false hlt
              have HL := Lib.hid (HKEEP.out key rfl hlt)
              clear hlt
              go_wp2_with ((with_reducible refine HCM.out.mono ?_); rintro e w5 ⟨rfl, hb5⟩; have HB5 := Lib.hid hb5; have HM5 := Lib.hid ((hb5.block m (blk_lt HM.out)).trans HM.out))
              have HF2 := Lib.hid (HF.out.then_ (Fr.of_below HB5.out (fun _ => False)) (fun k hk => hk.elim))
              have HV2 : Hid (KyV w5 R (some key) (.slice (some a1) key.length c1')) := Lib.hid ⟨a1, c1', rfl, Kd.F_below H6.out.1 HB5.out, H6.out.2⟩
              go_roundg (gk - 1)
              case measure => exact round_less HJL.out.1 HJL.out.2
              case rel => exact ⟨j + 1, some key, i2, (by first | rfl | exact congrArg _ w1'), Lib.hid (round_next HJL.out.1 HJL.out.2), HV2, HL, HM5, HF2⟩
      · have z0 : decide ((j : Int) < (k : Int)) = false := decide_eq_false (by omega)
        have z2 : ¬ (j : Int) < (k : Int) := by omega
        have HJN := Lib.hid (show j = k by have := HJ.out.1; omega)
        have f5 := blk_frozen HM.out 5
        have q5 : wr.cell? ⟨m, 5, none⟩ = some (.int .i64 d) := (blk_cell HM.out 5).trans rfl
        cases o with
        | none =>
          have hv : u3 = .slice none 0 0 := HV.out
          subst hv
          have HM2 : Hid ((wr.setCell ⟨m, 5, none⟩ (.int .i64 0)).heap[m]? = some (mgO (.iface T u) its kb k i2 0)) := Lib.hid ((blk_set HM.out 5 _).trans rfl)
          have HF2 := Lib.hid (HF.out.setCell (p := ⟨m, 5, none⟩) (.inl rfl) (.int .i64 0))
          go_wp2
          go_ret
          exact ⟨false, i2, rfl, HM2, HF2, Lib.hid (by have := HB.out; rw [HJN.out] at this; exact this)⟩
        | some key =>
          obtain ⟨a1, c1', rfl, h6, h7⟩ := HV.out
          have HM2 : Hid ((wr.setCell ⟨m, 5, none⟩ (.int .i64 2)).heap[m]? = some (mgO (.iface T u) its kb k i2 2)) := Lib.hid ((blk_set HM.out 5 _).trans rfl)
          have HF2 := Lib.hid (HF.out.setCell (p := ⟨m, 5, none⟩) (.inl rfl) (.int .i64 2))
          clear h6 h7
          go_wp2
          go_ret
          exact ⟨true, i2, rfl, HM2, HF2, Lib.hid ⟨key, by have := HB.out; rw [HJN.out] at this; exact this⟩⟩

end Go.Proofs.YtdkkkikcigjlhaaGreatDoor.Md
