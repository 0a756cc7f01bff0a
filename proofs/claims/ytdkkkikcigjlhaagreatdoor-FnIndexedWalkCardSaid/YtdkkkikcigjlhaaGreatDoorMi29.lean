/- An iterator that goes through lists by an index: Prev. -/
import Derived.Test.YtdkkkikcigjlhaaGreatDoorMi28
set_option linter.unusedVariables false
set_option linter.unusedSimpArgs false
namespace Go.Proofs.YtdkkkikcigjlhaaGreatDoor.Md
open Go.RowKit Go.Proofs.YtdkkkikcigjlhaaGreatDoor.Con Go.Proofs.YtdkkkikcigjlhaaGreatDoor.Run Go.Proofs.YtdkkkikcigjlhaaGreatDoorW.PrintWords Go.Proofs.YtdkkkikcigjlhaaGreatDoorW.PrintMore Go.Proofs.YtdkkkikcigjlhaaGreatDoor.Cmp Go.Sort Go.RwLone Go.Proofs.YtdkkkikcigjlhaaGreatDoor.PFnMemMap

section
variable {V : Value} {f : List Int → List Int → Int} {LL : List (List S44)} {A : Option Addr} {n c ix b : Nat} {R : Nat → Prop} {w w1 : World} {pos p2 : Int} {dv dv2 : Value} {q it : Nat} {i : Int}

def PvAt (V : Value) (LL : List (List S44)) (n ix b : Nat) (R : Nat → Prop) (w : World) (pos : Int) (dv : Value) (t : Int) : Prop :=
  (dv = .nilIface ∧ t = (offL LL pos.toNat : Int) - 1) ∨ ∃ (q it : Nat) (i : Int), pos = (q : Int) ∧ q < n ∧ dv = dtV it ∧ DtS V LL ix b R w q it i ∧ 0 ≤ i ∧ (i < ((LL.getD q []).length : Int)) ∧ t = (offL LL q : Int) + i - 1
theorem pv_nil {t : Int} (ht : t = (offL LL q : Int) - 1) : PvAt V LL n ix b R w (q : Int) .nilIface t := .inl ⟨rfl, by rw [Int.toNat_natCast]; exact ht⟩
theorem pl_begin (h : IxS V LL A n c ix b R w (-1) .nilIface) : PlAt V LL A n c ix b R w (-1) .nilIface :=
  ⟨_, h, .inr ⟨rfl, .inl rfl, fun _ => ⟨fun _ => rfl, fun e => by omega⟩, fun e => .inl rfl⟩⟩
theorem on_begin (L : List KV) : onL L (-1) = false := by
  unfold onL
  rw [decide_eq_false (p := (0 : Int) ≤ -1) (by omega), Bool.false_and]
theorem mem_at (hn : LL.length = n) (hq : q < n) : LL.getD q [] ∈ LL := by
  rw [List.getD_eq_getElem?_getD, List.getElem?_eq_getElem (by rw [hn]; exact hq)]
  exact List.getElem_mem _

set_option maxHeartbeats 6400000 in
set_option maxRecDepth 100000 in
theorem ixPrev_calls (hV : Cmpr V f) (hn : LL.length = n) (hl : n ≤ 4294967296) (hb : ∀ l ∈ LL, l.length ≤ 4294967296 ∧ ∀ x ∈ l, Byt x.f0) : ∀ (m : Nat) (w : World) (pos : Int) (dv : Value) (t : Int), pos + 1 < m → IxS V LL A n c ix b R w pos dv → PvAt V LL n ix b R w pos dv t →
    Calls Tryz.prog 229 #[.pointer (some ⟨ix, 0, none⟩)] w fun e w' => MvTold V LL A n c ix b R dv t w e w' := by
  intro m
  induction m with
  | zero =>
    intro w pos dv t hm h hx
    have := h.rng
    omega
  | succ m ih =>
    intro w pos dv t hm h hx
    have r4 : w.cell? ⟨ix, 4, none⟩ = some dv := (blk_cell h.bx 4).trans rfl
    have r2 : w.cell? ⟨ix, 2, none⟩ = some (.iface 203 (.pointer (some ⟨b, 0, none⟩))) := (blk_cell h.bx 2).trans rfl
    have r5 : w.cell? ⟨ix, 5, none⟩ = some .nilIface := (blk_cell h.bx 5).trans rfl
    have r1 : w.cell? ⟨ix, 1, none⟩ = some (.bool false) := (blk_cell h.bx 1).trans rfl
    have n2 : ∀ w, (nilAhead 418 203 (.pointer (some ⟨b, 0, none⟩)) "Prev").run Tryz.prog w = .ok (some false) w := fun w => by kernel_rfl
    have m2 : ∀ w, (method 418 203 (.pointer (some ⟨b, 0, none⟩)) "Prev").run Tryz.prog w = .ok (197, .pointer (some ⟨b, 0, none⟩)) w := fun w => by kernel_rfl
    have q2 : ∀ (args : Array Value) (w : World), (callFunc 197 args).run Tryz.prog w = .ok (.enter 197 args) w := fun args w => Go.MuLone.run_callFunc_enter Tryz.func197 (by kernel_rfl) rfl args w
    have n4 : ∀ (k : Nat) w, (nilAhead 418 161 (.pointer (some ⟨k, 0, none⟩)) "Last").run Tryz.prog w = .ok (some false) w := fun k w => by kernel_rfl
    have m4 : ∀ (k : Nat) w, (method 418 161 (.pointer (some ⟨k, 0, none⟩)) "Last").run Tryz.prog w = .ok (195, .pointer (some ⟨k, 0, none⟩)) w := fun k w => by kernel_rfl
    have q4 : ∀ (args : Array Value) (w : World), (callFunc 195 args).run Tryz.prog w = .ok (.enter 195 args) w := fun args w => Go.MuLone.run_callFunc_enter Tryz.func195 (by kernel_rfl) rfl args w
    have HH := Lib.hid h
    have HM := Lib.hid hm
    have HIH := Lib.hid ih
    have HNN := Lib.hid hn
    have HCL := Lib.hid (show ∀ W p k (j : Int) g, IxS V LL A n c ix b R W p (dtV k) → DtS V LL ix b R W g k j → Calls Tryz.prog 235 #[.pointer (some ⟨ix, 0, none⟩)] W fun e w' => e = .returned (.tuple #[]) ∧ Hid (IxS V LL A n c ix b R w' p .nilIface) ∧ Hid (Fr W w' (fun k2 => k2 = ix ∨ DvB (dtV k) k2)) from fun W p k j g h1 h2 => clear_state h1 h2.ok h2.far)
    have HSET := Lib.hid (show ∀ W g, g < n → IxS V LL A n c ix b R W (g : Int) .nilIface → Calls Tryz.prog 236 #[.pointer (some ⟨ix, 0, none⟩)] W fun e w' => SsTold V LL A n c ix b R g .nilIface W e w' from fun W g hg hW => set_state hV hn hl hb hW hg hW.ok DvFar.nil)
    have HLAST := Lib.hid (show ∀ W g k (j : Int), g < n → DtS V LL ix b R W g k j → Calls Tryz.prog 195 #[.pointer (some ⟨k, 0, none⟩)] W fun e w' => DmTold V LL ix b R g k (decide (0 < (LL.getD g []).length)) (if (LL.getD g []).length = 0 then 0 else ((LL.getD g []).length : Int) - 1) W e w' from fun W g k j hg hd => dtLast hV (hb _ (mem_at hn hg)).1 (hb _ (mem_at hn hg)).2 hd)
    have HKP := Lib.hid (show ∀ W W2 p k g (j : Int), IxS V LL A n c ix b R W p (dtV k) → DtS V LL ix b R W g k j → Fr W W2 (fun x => x = k) → IxS V LL A n c ix b R W2 p (dtV k) from fun W W2 p k g j h hd hf => h.fr hf (fun k2 hk e => hd.2.2.1 (by rw [← e]; exact hk)) ((hf.block ix (blk_lt h.bx) (fun e => hd.1 e.symm)).trans h.bx) ((hf.block b (blk_lt h.bb) (fun e => hd.2.1 e.symm)).trans h.bb) h.rng)
    have HOFF := Lib.hid (show ∀ g, g < n → offL LL (g + 1) = offL LL g + (LL.getD g []).length from fun g hg => off_succ LL g (by rw [hn]; exact hg))
    have HFLAT := Lib.hid (show ∀ g j, g < n → j < (LL.getD g []).length → onL (kvS LL.flatten) ((offL LL g + j : Nat) : Int) = true from fun g j hg hj => (flat_kv LL g j (by rw [hn]; exact hg) hj).1)
    rcases hx with ⟨rfl, ht⟩ | ⟨q, it, i, rfl, hq, rfl, hd, hi0, hi, ht⟩
    · have HIM := Lib.hid (show ∀ W, IxS V LL A n c ix b R W pos .nilIface → Calls Tryz.prog 197 #[.pointer (some ⟨b, 0, none⟩)] W fun e w' => ImTold V LL A n c ix b R .nilIface (decide (0 ≤ pos - 1)) (if 0 ≤ pos - 1 then pos - 1 else -1) W e w' from fun W hW => imPrev hl hW)
      by_cases hp : 0 ≤ pos - 1
      · rw [decide_eq_true hp, if_pos hp] at HIM
        obtain ⟨g, hg⟩ : ∃ g : Nat, pos - 1 = (g : Int) := ⟨(pos - 1).toNat, by omega⟩
        rw [hg] at HIM
        have HQ := Lib.hid (show g < n ∧ pos = (g : Int) + 1 ∧ t = (offL LL (g + 1) : Int) - 1 from ⟨by have := h.rng; omega, by omega, by have e : pos.toNat = g + 1 := (by omega); rw [ht, e]⟩)
        by_cases h0 : (LL.getD g []).length = 0
        · have HL0 := Lib.hid (show ∀ W k (j : Int), DtS V LL ix b R W g k j → Calls Tryz.prog 195 #[.pointer (some ⟨k, 0, none⟩)] W fun e w' => DmTold V LL ix b R g k false 0 W e w' from fun W k j hd => by
            have := HLAST.out W g k j HQ.out.1 hd
            rw [decide_eq_false (p := 0 < (LL.getD g []).length) (by omega), if_pos h0] at this
            exact this)
          have HT2 := Lib.hid (show t = (offL LL g : Int) - 1 by have := HOFF.out g HQ.out.1; have := HQ.out.2.2; omega)
          clear h hm ih hn hp ht hg h0
          go_enter Tryz.func229, Tryz.ntmps229
          go_wp2_with (first
            | (go_at_call 174; (with_reducible refine (Released_calls r1).mono ?_); rintro e wx ⟨rfl, rfl⟩)
            | ((with_reducible refine (HIM.out _ HH.out).mono ?_); rintro e w3 ⟨rfl, hs3, hf3⟩)
            | (go_at_call 236; (with_reducible refine (HSET.out _ _ HQ.out.1 hs3.out).mono ?_); rintro e w4 ⟨rfl, i4, hi4, hs4, hd4, hf4⟩; have s4 : w4.cell? ⟨ix, 4, none⟩ = some (dtV i4) := (blk_cell hs4.out.bx 4).trans rfl)
            | ((with_reducible refine (HL0.out _ _ _ hd4.out).mono ?_); rintro e w5 ⟨rfl, hd5, hf5⟩; have HS5 := Lib.hid (HKP.out _ _ _ _ _ _ hs4.out hd4.out hf5.out))
            | (go_at_call 237; (with_reducible refine (dataErr_calls HS5.out hd5.out).mono ?_); rintro e wz ⟨rfl, rfl⟩)
            | (go_at_call 235; (with_reducible refine (HCL.out _ _ _ _ _ HS5.out hd5.out).mono ?_); rintro e w6 ⟨rfl, hs6, hf6⟩)
            | (go_at_call 229; (with_reducible refine (HIH.out _ _ _ t (by have := HM.out; have := HQ.out.2.1; omega) hs6.out (pv_nil HT2.out)).mono ?_); rintro e w7 ⟨bb, dv2, rfl, hb7, hp7, hf7, hg7⟩))
          go_ret
          have hz3 := hf3.out.size
          have hz4 := hf4.out.size
          have hz5 := hf5.out.size
          have hz6 := hf6.out.size
          have hi4' := hi4.out
          have hfr0 : Fr w w (fun k => k = ix ∨ k = b ∨ DvB .nilIface k) := by
            exact Fr.refl _ _
          refine ⟨bb, dv2, rfl, hb7, hp7, Lib.hid ?_, Lib.hid ?_⟩
          · refine fr_two (fr_two (fr_two (fr_two (fr_two hfr0 hf3.out (fun k hk => .inl (.inr (.inl hk)))) hf4.out ?_) hf5.out (fun k hk => .inr (by omega))) hf6.out ?_) hf7.out ?_
            · rintro k (rfl | hk)
              · exact .inl (.inl rfl)
              · exact hk.nil.elim
            · rintro k (rfl | hk)
              · exact .inl (.inl rfl)
              · rw [hk.it]; exact .inr (by omega)
            · rintro k (rfl | rfl | hk)
              · exact .inl (.inl rfl)
              · exact .inl (.inr (.inl rfl))
              · exact hk.nil.elim
          · intro k hk
            rcases hg7.out k hk with h1 | h1
            · exact h1.nil.elim
            · exact .inr (by omega)
        · have HL0 := Lib.hid (show ∀ W k (j : Int), DtS V LL ix b R W g k j → Calls Tryz.prog 195 #[.pointer (some ⟨k, 0, none⟩)] W fun e w' => DmTold V LL ix b R g k true (((LL.getD g []).length - 1 : Nat) : Int) W e w' from fun W k j hd => by
            have := HLAST.out W g k j HQ.out.1 hd
            rw [decide_eq_true (p := 0 < (LL.getD g []).length) (by omega), if_neg h0, show ((LL.getD g []).length : Int) - 1 = (((LL.getD g []).length - 1 : Nat) : Int) by omega] at this
            exact this)
          have HT2 := Lib.hid (show t = ((offL LL g + ((LL.getD g []).length - 1) : Nat) : Int) ∧ (LL.getD g []).length - 1 < (LL.getD g []).length by have := HOFF.out g HQ.out.1; have := HQ.out.2.2; omega)
          clear h hm ih hn hp ht hg h0
          go_enter Tryz.func229, Tryz.ntmps229
          go_wp2_with (first
            | (go_at_call 174; (with_reducible refine (Released_calls r1).mono ?_); rintro e wx ⟨rfl, rfl⟩)
            | ((with_reducible refine (HIM.out _ HH.out).mono ?_); rintro e w3 ⟨rfl, hs3, hf3⟩)
            | (go_at_call 236; (with_reducible refine (HSET.out _ _ HQ.out.1 hs3.out).mono ?_); rintro e w4 ⟨rfl, i4, hi4, hs4, hd4, hf4⟩; have s4 : w4.cell? ⟨ix, 4, none⟩ = some (dtV i4) := (blk_cell hs4.out.bx 4).trans rfl)
            | ((with_reducible refine (HL0.out _ _ _ hd4.out).mono ?_); rintro e w5 ⟨rfl, hd5, hf5⟩; have HS5 := Lib.hid (HKP.out _ _ _ _ _ _ hs4.out hd4.out hf5.out)))
          go_ret
          have hz3 := hf3.out.size
          have hz4 := hf4.out.size
          have hi4' := hi4.out
          have hfr0 : Fr w w (fun k => k = ix ∨ k = b ∨ DvB .nilIface k) := by
            exact Fr.refl _ _
          refine ⟨true, dtV i4, rfl, Lib.hid ?_, Lib.hid ⟨_, HS5.out, .inl ⟨g, _, i4, rfl, HQ.out.1, HT2.out.2, rfl, hd5.out, HT2.out.1⟩⟩, Lib.hid ?_, Lib.hid (fun k hk => by rw [hk.it]; exact .inr (by omega))⟩
          · rw [HT2.out.1, HFLAT.out g _ HQ.out.1 HT2.out.2]
          · refine fr_two (fr_two (fr_two hfr0 hf3.out (fun k hk => .inl (.inr (.inl hk)))) hf4.out ?_) hf5.out (fun k hk => .inr (by omega))
            rintro k (rfl | hk)
            · exact .inl (.inl rfl)
            · exact hk.nil.elim
      · rw [decide_eq_false hp, if_neg hp] at HIM
        have HTE := Lib.hid (show t = -1 by
          have e : pos.toNat = 0 := by omega
          rw [ht, e, off_zero]; rfl)
        clear h hm ih hn hp ht
        go_enter Tryz.func229, Tryz.ntmps229
        go_wp2_with (first
          | (go_at_call 174; (with_reducible refine (Released_calls r1).mono ?_); rintro e wx ⟨rfl, rfl⟩)
          | ((with_reducible refine (HIM.out _ HH.out).mono ?_); rintro e w3 ⟨rfl, hs3, hf3⟩)
          | (go_at_call 234; (with_reducible refine (indexErr_calls hs3.out).mono ?_); rintro e wz ⟨rfl, rfl⟩))
        go_ret
        have hfr0 : Fr w w (fun k => k = ix ∨ k = b ∨ DvB .nilIface k) := by
          exact Fr.refl _ _
        refine ⟨false, .nilIface, rfl, Lib.hid ?_, Lib.hid ?_, Lib.hid (fr_two hfr0 hf3.out (fun k hk => .inl (.inr (.inl hk)))), Lib.hid (fun k hk => hk.nil.elim)⟩
        · rw [HTE.out, on_begin]
        · rw [HTE.out]; exact pl_begin hs3.out
    · have n3 : ∀ w, (nilAhead 418 161 (.pointer (some ⟨it, 0, none⟩)) "Prev").run Tryz.prog w = .ok (some false) w := fun w => by kernel_rfl
      have m3 : ∀ w, (method 418 161 (.pointer (some ⟨it, 0, none⟩)) "Prev").run Tryz.prog w = .ok (197, .pointer (some ⟨it, 0, none⟩)) w := fun w => by kernel_rfl
      have HIM := Lib.hid (show ∀ W, IxS V LL A n c ix b R W (q : Int) .nilIface → Calls Tryz.prog 197 #[.pointer (some ⟨b, 0, none⟩)] W fun e w' => ImTold V LL A n c ix b R .nilIface (decide (0 ≤ (q : Int) - 1)) (if 0 ≤ (q : Int) - 1 then (q : Int) - 1 else -1) W e w' from fun W hW => imPrev hl hW)
      have HDP := Lib.hid (dtPrev (hb _ (mem_at hn hq)).1 hd (by omega))
      have HD := Lib.hid hd
      by_cases h1 : 0 ≤ i - 1
      · rw [decide_eq_true h1, if_pos h1] at HDP
        obtain ⟨j, hj⟩ : ∃ j : Nat, i - 1 = (j : Int) := ⟨(i - 1).toNat, by omega⟩
        rw [hj] at HDP
        have HQ := Lib.hid (show q < n ∧ j < (LL.getD q []).length ∧ t = ((offL LL q + j : Nat) : Int) from ⟨hq, by omega, by omega⟩)
        clear h hm ih hn ht hd hi hi0 hq h1 hj
        go_enter Tryz.func229, Tryz.ntmps229
        go_wp2_with (first
          | (go_at_call 174; (with_reducible refine (Released_calls r1).mono ?_); rintro e wx ⟨rfl, rfl⟩)
          | ((with_reducible refine HDP.out.mono ?_); rintro e w1 ⟨rfl, hd1, hf1⟩; have HS1 := Lib.hid (HKP.out _ _ _ _ _ _ HH.out HD.out hf1.out); have s4 : w1.cell? ⟨ix, 4, none⟩ = some (dtV it) := (blk_cell HS1.out.bx 4).trans rfl))
        go_ret
        refine ⟨true, dtV it, rfl, Lib.hid ?_, Lib.hid ⟨_, HS1.out, .inl ⟨q, j, it, rfl, HQ.out.1, HQ.out.2.1, rfl, hd1.out, HQ.out.2.2⟩⟩, Lib.hid (hf1.out.mono (fun k hk => .inr (.inr (by rw [hk]; rfl)))), Lib.hid (fun k hk => .inl hk)⟩
        rw [HQ.out.2.2, HFLAT.out q j HQ.out.1 HQ.out.2.1]
      · rw [decide_eq_false h1, if_neg h1] at HDP
        have hi2 : i = 0 := by omega
        subst hi2
        by_cases hp : 0 ≤ (q : Int) - 1
        · rw [decide_eq_true hp, if_pos hp] at HIM
          obtain ⟨g, hg⟩ : ∃ g : Nat, (q : Int) - 1 = (g : Int) := ⟨((q : Int) - 1).toNat, by omega⟩
          rw [hg] at HIM
          have HQ := Lib.hid (show g < n ∧ (q : Int) = (g : Int) + 1 ∧ t = (offL LL (g + 1) : Int) - 1 from ⟨by have := h.rng; omega, by omega, by have e : q = g + 1 := (by omega); rw [← e]; omega⟩)
          by_cases h0 : (LL.getD g []).length = 0
          · have HL0 := Lib.hid (show ∀ W k (j : Int), DtS V LL ix b R W g k j → Calls Tryz.prog 195 #[.pointer (some ⟨k, 0, none⟩)] W fun e w' => DmTold V LL ix b R g k false 0 W e w' from fun W k j hd => by
              have := HLAST.out W g k j HQ.out.1 hd
              rw [decide_eq_false (p := 0 < (LL.getD g []).length) (by omega), if_pos h0] at this
              exact this)
            have HT2 := Lib.hid (show t = (offL LL g : Int) - 1 by have := HOFF.out g HQ.out.1; have := HQ.out.2.2; omega)
            clear h hm ih hn hd hi hi0 ht hq h1 hp hg h0
            go_enter Tryz.func229, Tryz.ntmps229
            go_wp2_with (first
              | (go_at_call 174; (with_reducible refine (Released_calls r1).mono ?_); rintro e wx ⟨rfl, rfl⟩)
              | ((with_reducible refine HDP.out.mono ?_); rintro e w1 ⟨rfl, hd1, hf1⟩; have HS1 := Lib.hid (HKP.out _ _ _ _ _ _ HH.out HD.out hf1.out))
              | (go_at_call 237; (with_reducible refine (dataErr_calls HS1.out hd1.out).mono ?_); rintro e wy ⟨rfl, rfl⟩)
              | (go_at_call 235; (with_reducible refine (HCL.out _ _ _ _ _ HS1.out hd1.out).mono ?_); rintro e w2 ⟨rfl, hs2, hf2⟩; have s2 : w2.cell? ⟨ix, 2, none⟩ = some (.iface 203 (.pointer (some ⟨b, 0, none⟩))) := (blk_cell hs2.out.bx 2).trans rfl)
              | ((with_reducible refine (HIM.out _ hs2.out).mono ?_); rintro e w3 ⟨rfl, hs3, hf3⟩)
              | (go_at_call 236; (with_reducible refine (HSET.out _ _ HQ.out.1 hs3.out).mono ?_); rintro e w4 ⟨rfl, i4, hi4, hs4, hd4, hf4⟩; have s4 : w4.cell? ⟨ix, 4, none⟩ = some (dtV i4) := (blk_cell hs4.out.bx 4).trans rfl)
              | ((with_reducible refine (HL0.out _ _ _ hd4.out).mono ?_); rintro e w5 ⟨rfl, hd5, hf5⟩; have HS5 := Lib.hid (HKP.out _ _ _ _ _ _ hs4.out hd4.out hf5.out))
              | (go_at_call 237; (with_reducible refine (dataErr_calls HS5.out hd5.out).mono ?_); rintro e wz ⟨rfl, rfl⟩)
              | (go_at_call 235; (with_reducible refine (HCL.out _ _ _ _ _ HS5.out hd5.out).mono ?_); rintro e w6 ⟨rfl, hs6, hf6⟩)
              | (go_at_call 229; (with_reducible refine (HIH.out _ _ _ t (by have := HM.out; have := HQ.out.2.1; omega) hs6.out (pv_nil HT2.out)).mono ?_); rintro e w7 ⟨bb, dv2, rfl, hb7, hp7, hf7, hg7⟩))
            go_ret
            have hz1 := hf1.out.size
            have hz2 := hf2.out.size
            have hz3 := hf3.out.size
            have hz4 := hf4.out.size
            have hz5 := hf5.out.size
            have hz6 := hf6.out.size
            have hi4' := hi4.out
            have hfr0 : Fr w w2 (fun k => k = ix ∨ k = b ∨ DvB (dtV it) k) := by
              refine fr_two (hf1.out.mono (fun k hk => .inr (.inr (by rw [hk]; rfl)))) hf2.out ?_
              rintro k (rfl | hk)
              · exact .inl (.inl rfl)
              · exact .inl (.inr (.inr hk))
            refine ⟨bb, dv2, rfl, hb7, hp7, Lib.hid ?_, Lib.hid ?_⟩
            · refine fr_two (fr_two (fr_two (fr_two (fr_two hfr0 hf3.out (fun k hk => .inl (.inr (.inl hk)))) hf4.out ?_) hf5.out (fun k hk => .inr (by omega))) hf6.out ?_) hf7.out ?_
              · rintro k (rfl | hk)
                · exact .inl (.inl rfl)
                · exact hk.nil.elim
              · rintro k (rfl | hk)
                · exact .inl (.inl rfl)
                · rw [hk.it]; exact .inr (by omega)
              · rintro k (rfl | rfl | hk)
                · exact .inl (.inl rfl)
                · exact .inl (.inr (.inl rfl))
                · exact hk.nil.elim
            · intro k hk
              rcases hg7.out k hk with h1 | h1
              · exact h1.nil.elim
              · exact .inr (by omega)
          · have HL0 := Lib.hid (show ∀ W k (j : Int), DtS V LL ix b R W g k j → Calls Tryz.prog 195 #[.pointer (some ⟨k, 0, none⟩)] W fun e w' => DmTold V LL ix b R g k true (((LL.getD g []).length - 1 : Nat) : Int) W e w' from fun W k j hd => by
              have := HLAST.out W g k j HQ.out.1 hd
              rw [decide_eq_true (p := 0 < (LL.getD g []).length) (by omega), if_neg h0, show ((LL.getD g []).length : Int) - 1 = (((LL.getD g []).length - 1 : Nat) : Int) by omega] at this
              exact this)
            have HT2 := Lib.hid (show t = ((offL LL g + ((LL.getD g []).length - 1) : Nat) : Int) ∧ (LL.getD g []).length - 1 < (LL.getD g []).length by have := HOFF.out g HQ.out.1; have := HQ.out.2.2; omega)
            clear h hm ih hn hd hi hi0 ht hq h1 hp hg h0
            go_enter Tryz.func229, Tryz.ntmps229
            go_wp2_with (first
              | (go_at_call 174; (with_reducible refine (Released_calls r1).mono ?_); rintro e wx ⟨rfl, rfl⟩)
              | ((with_reducible refine HDP.out.mono ?_); rintro e w1 ⟨rfl, hd1, hf1⟩; have HS1 := Lib.hid (HKP.out _ _ _ _ _ _ HH.out HD.out hf1.out))
              | (go_at_call 237; (with_reducible refine (dataErr_calls HS1.out hd1.out).mono ?_); rintro e wy ⟨rfl, rfl⟩)
              | (go_at_call 235; (with_reducible refine (HCL.out _ _ _ _ _ HS1.out hd1.out).mono ?_); rintro e w2 ⟨rfl, hs2, hf2⟩; have s2 : w2.cell? ⟨ix, 2, none⟩ = some (.iface 203 (.pointer (some ⟨b, 0, none⟩))) := (blk_cell hs2.out.bx 2).trans rfl)
              | ((with_reducible refine (HIM.out _ hs2.out).mono ?_); rintro e w3 ⟨rfl, hs3, hf3⟩)
              | (go_at_call 236; (with_reducible refine (HSET.out _ _ HQ.out.1 hs3.out).mono ?_); rintro e w4 ⟨rfl, i4, hi4, hs4, hd4, hf4⟩; have s4 : w4.cell? ⟨ix, 4, none⟩ = some (dtV i4) := (blk_cell hs4.out.bx 4).trans rfl)
              | ((with_reducible refine (HL0.out _ _ _ hd4.out).mono ?_); rintro e w5 ⟨rfl, hd5, hf5⟩; have HS5 := Lib.hid (HKP.out _ _ _ _ _ _ hs4.out hd4.out hf5.out)))
            go_ret
            have hz1 := hf1.out.size
            have hz2 := hf2.out.size
            have hz3 := hf3.out.size
            have hz4 := hf4.out.size
            have hi4' := hi4.out
            have hfr0 : Fr w w2 (fun k => k = ix ∨ k = b ∨ DvB (dtV it) k) := by
              refine fr_two (hf1.out.mono (fun k hk => .inr (.inr (by rw [hk]; rfl)))) hf2.out ?_
              rintro k (rfl | hk)
              · exact .inl (.inl rfl)
              · exact .inl (.inr (.inr hk))
            refine ⟨true, dtV i4, rfl, Lib.hid ?_, Lib.hid ⟨_, HS5.out, .inl ⟨g, _, i4, rfl, HQ.out.1, HT2.out.2, rfl, hd5.out, HT2.out.1⟩⟩, Lib.hid ?_, Lib.hid (fun k hk => by rw [hk.it]; exact .inr (by omega))⟩
            · rw [HT2.out.1, HFLAT.out g _ HQ.out.1 HT2.out.2]
            · refine fr_two (fr_two (fr_two hfr0 hf3.out (fun k hk => .inl (.inr (.inl hk)))) hf4.out ?_) hf5.out (fun k hk => .inr (by omega))
              rintro k (rfl | hk)
              · exact .inl (.inl rfl)
              · exact hk.nil.elim
        · rw [decide_eq_false hp, if_neg hp] at HIM
          have HTE := Lib.hid (show t = -1 by
            have e : q = 0 := by omega
            rw [e, off_zero] at ht; omega)
          clear h hm ih hn hd hi hi0 ht hq h1 hp
          go_enter Tryz.func229, Tryz.ntmps229
          go_wp2_with (first
            | (go_at_call 174; (with_reducible refine (Released_calls r1).mono ?_); rintro e wx ⟨rfl, rfl⟩)
            | ((with_reducible refine HDP.out.mono ?_); rintro e w1 ⟨rfl, hd1, hf1⟩; have HS1 := Lib.hid (HKP.out _ _ _ _ _ _ HH.out HD.out hf1.out))
            | (go_at_call 237; (with_reducible refine (dataErr_calls HS1.out hd1.out).mono ?_); rintro e wy ⟨rfl, rfl⟩)
            | (go_at_call 235; (with_reducible refine (HCL.out _ _ _ _ _ HS1.out hd1.out).mono ?_); rintro e w2 ⟨rfl, hs2, hf2⟩; have s2 : w2.cell? ⟨ix, 2, none⟩ = some (.iface 203 (.pointer (some ⟨b, 0, none⟩))) := (blk_cell hs2.out.bx 2).trans rfl)
            | ((with_reducible refine (HIM.out _ hs2.out).mono ?_); rintro e w3 ⟨rfl, hs3, hf3⟩)
            | (go_at_call 234; (with_reducible refine (indexErr_calls hs3.out).mono ?_); rintro e wz ⟨rfl, rfl⟩))
          go_ret
          have hfr0 : Fr w w2 (fun k => k = ix ∨ k = b ∨ DvB (dtV it) k) := by
            refine fr_two (hf1.out.mono (fun k hk => .inr (.inr (by rw [hk]; rfl)))) hf2.out ?_
            rintro k (rfl | hk)
            · exact .inl (.inl rfl)
            · exact .inl (.inr (.inr hk))
          refine ⟨false, .nilIface, rfl, Lib.hid ?_, Lib.hid ?_, Lib.hid (fr_two hfr0 hf3.out (fun k hk => .inl (.inr (.inl hk)))), Lib.hid (fun k hk => hk.nil.elim)⟩
          · rw [HTE.out, on_begin]
          · rw [HTE.out]; exact pl_begin hs3.out
end

end Go.Proofs.YtdkkkikcigjlhaaGreatDoor.Md
