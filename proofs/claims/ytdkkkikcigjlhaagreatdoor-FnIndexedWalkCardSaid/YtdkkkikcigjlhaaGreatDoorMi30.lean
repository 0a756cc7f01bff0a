/- An iterator that goes through lists by an index: First, Last, Seek. -/
import Derived.Test.YtdkkkikcigjlhaaGreatDoorMi29
set_option linter.unusedVariables false
set_option linter.unusedSimpArgs false
namespace Go.Proofs.YtdkkkikcigjlhaaGreatDoor.Md
open Go.RowKit Go.Proofs.YtdkkkikcigjlhaaGreatDoor.Con Go.Proofs.YtdkkkikcigjlhaaGreatDoor.Run Go.Proofs.YtdkkkikcigjlhaaGreatDoorW.PrintWords Go.Proofs.YtdkkkikcigjlhaaGreatDoorW.PrintMore Go.Proofs.YtdkkkikcigjlhaaGreatDoor.Cmp Go.Sort Go.RwLone Go.Proofs.YtdkkkikcigjlhaaGreatDoor.PFnMemMap

section
variable {V : Value} {f : List Int → List Int → Int} {LL : List (List S44)} {A : Option Addr} {n c ix b : Nat} {R : Nat → Prop} {w w1 : World} {pos p2 : Int} {dv dv2 : Value} {q it : Nat} {i t : Int}

theorem DvOk.fr (h : DvOk w ix dv) {S : Nat → Prop} (hf : Fr w w1 S) (hs : ∀ {k}, ¬ (DvB dv k ∧ S k)) : DvOk w1 ix dv := by
  rcases h with rfl | ⟨it, I, p, p2, ka, va, rfl, h1, h2⟩
  · exact .inl rfl
  · exact .inr ⟨it, I, p, p2, ka, va, rfl, h1, (hf.block it (blk_lt h2) (fun q => hs ⟨rfl, q⟩)).trans h2⟩
theorem PlAt.open_ (h : PlAt V LL A n c ix b R w t dv) : ∃ pos, IxS V LL A n c ix b R w pos dv ∧ DvOk w ix dv ∧ DvFar ix b R dv := by
  obtain ⟨pos, h1, ⟨q, i, it, rfl, -, -, rfl, hd, -⟩ | ⟨rfl, -⟩⟩ := h
  · exact ⟨_, h1, hd.ok, hd.far⟩
  · exact ⟨_, h1, .inl rfl, DvFar.nil⟩
theorem flat_nil (hn : LL.length = 0) : LL.flatten.length = 0 := by rw [List.length_eq_zero_iff.1 hn]; rfl

set_option maxHeartbeats 6400000 in
set_option maxRecDepth 100000 in
theorem ixFirst_calls (hV : Cmpr V f) (hn : LL.length = n) (hl : n ≤ 4294967296) (hb : ∀ l ∈ LL, l.length ≤ 4294967296 ∧ ∀ x ∈ l, Byt x.f0) (hp : PlAt V LL A n c ix b R w t dv) :
    Calls Tryz.prog 225 #[.pointer (some ⟨ix, 0, none⟩)] w fun e w' => MvTold V LL A n c ix b R dv 0 w e w' := by
  obtain ⟨pos, h, hdv, hfar⟩ := hp.open_
  clear hp
  have r2 : w.cell? ⟨ix, 2, none⟩ = some (.iface 203 (.pointer (some ⟨b, 0, none⟩))) := (blk_cell h.bx 2).trans rfl
  have r5 : w.cell? ⟨ix, 5, none⟩ = some .nilIface := (blk_cell h.bx 5).trans rfl
  have r1 : w.cell? ⟨ix, 1, none⟩ = some (.bool false) := (blk_cell h.bx 1).trans rfl
  have n2 : ∀ w, (nilAhead 418 203 (.pointer (some ⟨b, 0, none⟩)) "First").run Tryz.prog w = .ok (some false) w := fun w => by kernel_rfl
  have m2 : ∀ w, (method 418 203 (.pointer (some ⟨b, 0, none⟩)) "First").run Tryz.prog w = .ok (193, .pointer (some ⟨b, 0, none⟩)) w := fun w => by kernel_rfl
  have q2 : ∀ (args : Array Value) (w : World), (callFunc 193 args).run Tryz.prog w = .ok (.enter 193 args) w := fun args w => Go.MuLone.run_callFunc_enter Tryz.func193 (by kernel_rfl) rfl args w
  have HCL := Lib.hid (show ∀ W p, IxS V LL A n c ix b R W p dv → DvOk W ix dv → Calls Tryz.prog 235 #[.pointer (some ⟨ix, 0, none⟩)] W fun e w' => e = .returned (.tuple #[]) ∧ Hid (IxS V LL A n c ix b R w' p .nilIface) ∧ Hid (Fr W w' (fun k2 => k2 = ix ∨ DvB dv k2)) from fun W p h1 h2 => clear_state h1 h2 hfar)
  have HSET := Lib.hid (show ∀ W g, g < n → IxS V LL A n c ix b R W (g : Int) dv → DvOk W ix dv → Calls Tryz.prog 236 #[.pointer (some ⟨ix, 0, none⟩)] W fun e w' => SsTold V LL A n c ix b R g dv W e w' from fun W g hg hW hd => set_state hV hn hl hb hW hg hd hfar)
  have HDK := Lib.hid (show ∀ W, Fr w W (fun k => k = b) → DvOk W ix dv from fun W hf => hdv.fr hf (fun {k} e => (hfar k e.1).2.1 e.2))
  have HIM := Lib.hid (imFirst hV hn hl hb h)
  by_cases h0 : n = 0
  · rw [decide_eq_false (show ¬ 0 < n by omega), if_pos h0] at HIM
    have HN := Lib.hid (show LL.flatten.length = 0 from flat_nil (by omega))
    clear h hdv hfar hn hl hb h0
    go_enter Tryz.func225, Tryz.ntmps225
    go_wp2_with (first
      | (go_at_call 174; (with_reducible refine (Released_calls r1).mono ?_); rintro e wx ⟨rfl, rfl⟩)
      | ((with_reducible refine HIM.out.mono ?_); rintro e w1 ⟨rfl, hs1, hf1⟩; have HD1 := Lib.hid (HDK.out _ hf1.out))
      | (go_at_call 234; (with_reducible refine (indexErr_calls hs1.out).mono ?_); rintro e wz ⟨rfl, rfl⟩)
      | (go_at_call 235; (with_reducible refine (HCL.out _ _ hs1.out HD1.out).mono ?_); rintro e w2 ⟨rfl, hs2, hf2⟩))
    go_ret
    refine ⟨false, .nilIface, rfl, Lib.hid ?_, Lib.hid ?_, Lib.hid (fr_two (hf1.out.mono (fun k hk => .inr (.inl hk))) hf2.out (fun k hk => .inl (hk.elim (fun e => .inl e) (fun e => .inr (.inr e))))), Lib.hid (fun k hk => hk.nil.elim)⟩
    · unfold onL; rw [kvS_len, HN.out]; rfl
    · exact ⟨_, hs2.out, .inr ⟨rfl, .inl rfl, fun e => by have := HN.out; omega, fun _ => .inr rfl⟩⟩
  · rw [decide_eq_true (show 0 < n by omega), if_neg h0] at HIM
    have HIM2 : Hid (Calls Tryz.prog 193 #[.pointer (some ⟨b, 0, none⟩)] w fun e w' => ImTold V LL A n c ix b R dv true ((0 : Nat) : Int) w e w') := HIM
    have HQ := Lib.hid (show 0 < n ∧ 0 = offL LL 0 from ⟨by omega, (off_zero LL).symm⟩)
    have HNX := Lib.hid (show ∀ W k, IxS V LL A n c ix b R W ((0 : Nat) : Int) (dtV k) → DtS V LL ix b R W 0 k (-1) → Calls Tryz.prog 228 #[.pointer (some ⟨ix, 0, none⟩)] W fun e w' => MvTold V LL A n c ix b R (dtV k) ((0 : Nat) : Int) W e w' from fun W k h1 h2 => ixNext_calls hV hn hl hb (n + 1) W _ _ 0 (by omega) h1 (nx_new HQ.out.1 h2 HQ.out.2))
    clear h hdv hfar hn hl hb h0 HIM
    go_enter Tryz.func225, Tryz.ntmps225
    go_wp2_with (first
      | (go_at_call 174; (with_reducible refine (Released_calls r1).mono ?_); rintro e wx ⟨rfl, rfl⟩)
      | ((with_reducible refine HIM2.out.mono ?_); rintro e w1 ⟨rfl, hs1, hf1⟩; have HD1 := Lib.hid (HDK.out _ hf1.out))
      | (go_at_call 236; (with_reducible refine (HSET.out _ _ HQ.out.1 hs1.out HD1.out).mono ?_); rintro e w4 ⟨rfl, i4, hi4, hs4, hd4, hf4⟩)
      | (go_at_call 228; (with_reducible refine (HNX.out _ _ hs4.out hd4.out).mono ?_); rintro e w5 ⟨bb, dv2, rfl, hb5, hp5, hf5, hg5⟩))
    go_ret
    have hz1 := hf1.out.size
    have hz4 := hf4.out.size
    have hi4' := hi4.out
    refine ⟨bb, dv2, rfl, hb5, hp5, Lib.hid ?_, Lib.hid ?_⟩
    · refine fr_two (fr_two (hf1.out.mono (fun k hk => .inr (.inl hk))) hf4.out (fun k hk => .inl (hk.elim (fun e => .inl e) (fun e => .inr (.inr e))))) hf5.out ?_
      rintro k (rfl | rfl | hk)
      · exact .inl (.inl rfl)
      · exact .inl (.inr (.inl rfl))
      · rw [hk.it]; exact .inr (by omega)
    · intro k hk
      rcases hg5.out k hk with h1 | h1
      · rw [h1.it]; exact .inr (by omega)
      · exact .inr (by omega)

set_option maxHeartbeats 6400000 in
set_option maxRecDepth 100000 in
theorem ixLast_calls (hV : Cmpr V f) (hn : LL.length = n) (hl : n ≤ 4294967296) (hb : ∀ l ∈ LL, l.length ≤ 4294967296 ∧ ∀ x ∈ l, Byt x.f0) (hp : PlAt V LL A n c ix b R w t dv) :
    Calls Tryz.prog 227 #[.pointer (some ⟨ix, 0, none⟩)] w fun e w' => MvTold V LL A n c ix b R dv ((LL.flatten.length : Int) - 1) w e w' := by
  obtain ⟨pos, h, hdv, hfar⟩ := hp.open_
  clear hp
  have r2 : w.cell? ⟨ix, 2, none⟩ = some (.iface 203 (.pointer (some ⟨b, 0, none⟩))) := (blk_cell h.bx 2).trans rfl
  have r5 : w.cell? ⟨ix, 5, none⟩ = some .nilIface := (blk_cell h.bx 5).trans rfl
  have r1 : w.cell? ⟨ix, 1, none⟩ = some (.bool false) := (blk_cell h.bx 1).trans rfl
  have n2 : ∀ w, (nilAhead 418 203 (.pointer (some ⟨b, 0, none⟩)) "Last").run Tryz.prog w = .ok (some false) w := fun w => by kernel_rfl
  have m2 : ∀ w, (method 418 203 (.pointer (some ⟨b, 0, none⟩)) "Last").run Tryz.prog w = .ok (195, .pointer (some ⟨b, 0, none⟩)) w := fun w => by kernel_rfl
  have q2 : ∀ (args : Array Value) (w : World), (callFunc 195 args).run Tryz.prog w = .ok (.enter 195 args) w := fun args w => Go.MuLone.run_callFunc_enter Tryz.func195 (by kernel_rfl) rfl args w
  have n4 : ∀ (k : Nat) w, (nilAhead 418 161 (.pointer (some ⟨k, 0, none⟩)) "Last").run Tryz.prog w = .ok (some false) w := fun k w => by kernel_rfl
  have m4 : ∀ (k : Nat) w, (method 418 161 (.pointer (some ⟨k, 0, none⟩)) "Last").run Tryz.prog w = .ok (195, .pointer (some ⟨k, 0, none⟩)) w := fun k w => by kernel_rfl
  have q4x : ∀ (args : Array Value) (w : World), (callFunc 195 args).run Tryz.prog w = .ok (.enter 195 args) w := fun args w => Go.MuLone.run_callFunc_enter Tryz.func195 (by kernel_rfl) rfl args w
  have HCL := Lib.hid (show ∀ W p, IxS V LL A n c ix b R W p dv → DvOk W ix dv → Calls Tryz.prog 235 #[.pointer (some ⟨ix, 0, none⟩)] W fun e w' => e = .returned (.tuple #[]) ∧ Hid (IxS V LL A n c ix b R w' p .nilIface) ∧ Hid (Fr W w' (fun k2 => k2 = ix ∨ DvB dv k2)) from fun W p h1 h2 => clear_state h1 h2 hfar)
  have HSET := Lib.hid (show ∀ W g, g < n → IxS V LL A n c ix b R W (g : Int) dv → DvOk W ix dv → Calls Tryz.prog 236 #[.pointer (some ⟨ix, 0, none⟩)] W fun e w' => SsTold V LL A n c ix b R g dv W e w' from fun W g hg hW hd => set_state hV hn hl hb hW hg hd hfar)
  have HDK := Lib.hid (show ∀ W, Fr w W (fun k => k = b) → DvOk W ix dv from fun W hf => hdv.fr hf (fun {k} e => (hfar k e.1).2.1 e.2))
  have HKP := Lib.hid (show ∀ W W2 p k g (j : Int), IxS V LL A n c ix b R W p (dtV k) → DtS V LL ix b R W g k j → Fr W W2 (fun x => x = k) → IxS V LL A n c ix b R W2 p (dtV k) from fun W W2 p k g j h hd hf => h.fr hf (fun k2 hk e => hd.2.2.1 (by rw [← e]; exact hk)) ((hf.block ix (blk_lt h.bx) (fun e => hd.1 e.symm)).trans h.bx) ((hf.block b (blk_lt h.bb) (fun e => hd.2.1 e.symm)).trans h.bb) h.rng)
  have HIM := Lib.hid (imLast hV hn hl hb h)
  by_cases h0 : n = 0
  · rw [decide_eq_false (show ¬ 0 < n by omega), if_pos h0] at HIM
    have HN := Lib.hid (show LL.flatten.length = 0 ∧ (0 : Int) = (n : Int) from ⟨flat_nil (by omega), by omega⟩)
    clear h hdv hfar hn hl hb h0
    go_enter Tryz.func227, Tryz.ntmps227
    go_wp2_with (first
      | (go_at_call 174; (with_reducible refine (Released_calls r1).mono ?_); rintro e wx ⟨rfl, rfl⟩)
      | ((with_reducible refine HIM.out.mono ?_); rintro e w1 ⟨rfl, hs1, hf1⟩; have HD1 := Lib.hid (HDK.out _ hf1.out))
      | (go_at_call 234; (with_reducible refine (indexErr_calls hs1.out).mono ?_); rintro e wz ⟨rfl, rfl⟩)
      | (go_at_call 235; (with_reducible refine (HCL.out _ _ hs1.out HD1.out).mono ?_); rintro e w2 ⟨rfl, hs2, hf2⟩))
    go_ret
    refine ⟨false, .nilIface, rfl, Lib.hid ?_, Lib.hid ?_, Lib.hid (fr_two (hf1.out.mono (fun k hk => .inr (.inl hk))) hf2.out (fun k hk => .inl (hk.elim (fun e => .inl e) (fun e => .inr (.inr e))))), Lib.hid (fun k hk => hk.nil.elim)⟩
    · unfold onL; rw [kvS_len, HN.out.1]; rfl
    · exact ⟨_, hs2.out, .inr ⟨rfl, .inr HN.out.2, fun e => by have := HN.out.1; omega, fun _ => .inl (by have := HN.out.1; omega)⟩⟩
  · rw [decide_eq_true (show 0 < n by omega), if_neg h0, show (n : Int) - 1 = ((n - 1 : Nat) : Int) by omega] at HIM
    obtain ⟨g, hg⟩ : ∃ g, n - 1 = g := ⟨_, rfl⟩
    rw [hg] at HIM
    have hoff := off_succ LL g (by omega)
    have htop := off_top LL (g + 1) (by omega)
    have HG := Lib.hid (show g < n by omega)
    by_cases hL : (LL.getD g []).length = 0
    · have HL0 := Lib.hid (show ∀ W k (j : Int), DtS V LL ix b R W g k j → Calls Tryz.prog 195 #[.pointer (some ⟨k, 0, none⟩)] W fun e w' => DmTold V LL ix b R g k false 0 W e w' from fun W k j hd => by
        have := dtLast hV (hb _ (mem_at hn HG.out)).1 (hb _ (mem_at hn HG.out)).2 hd
        rw [decide_eq_false (p := 0 < (LL.getD g []).length) (by omega), if_pos hL] at this
        exact this)
      have HCL2 := Lib.hid (show ∀ W p k (j : Int), IxS V LL A n c ix b R W p (dtV k) → DtS V LL ix b R W g k j → Calls Tryz.prog 235 #[.pointer (some ⟨ix, 0, none⟩)] W fun e w' => e = .returned (.tuple #[]) ∧ Hid (IxS V LL A n c ix b R w' p .nilIface) ∧ Hid (Fr W w' (fun k2 => k2 = ix ∨ DvB (dtV k) k2)) from fun W p k j h1 h2 => clear_state h1 h2.ok h2.far)
      have HPV := Lib.hid (show ∀ W, IxS V LL A n c ix b R W (g : Int) .nilIface → Calls Tryz.prog 229 #[.pointer (some ⟨ix, 0, none⟩)] W fun e w' => MvTold V LL A n c ix b R .nilIface ((LL.flatten.length : Int) - 1) W e w' from fun W h1 => ixPrev_calls hV hn hl hb (g + 2) W _ _ _ (by omega) h1 (pv_nil (by omega)))
      clear h hdv hfar hn hl hb h0 hg hoff htop hL
      go_enter Tryz.func227, Tryz.ntmps227
      go_wp2_with (first
        | (go_at_call 174; (with_reducible refine (Released_calls r1).mono ?_); rintro e wx ⟨rfl, rfl⟩)
        | ((with_reducible refine HIM.out.mono ?_); rintro e w1 ⟨rfl, hs1, hf1⟩; have HD1 := Lib.hid (HDK.out _ hf1.out))
        | (go_at_call 236; (with_reducible refine (HSET.out _ _ HG.out hs1.out HD1.out).mono ?_); rintro e w4 ⟨rfl, i4, hi4, hs4, hd4, hf4⟩; have s4 : w4.cell? ⟨ix, 4, none⟩ = some (dtV i4) := (blk_cell hs4.out.bx 4).trans rfl)
        | ((with_reducible refine (HL0.out _ _ _ hd4.out).mono ?_); rintro e w5 ⟨rfl, hd5, hf5⟩; have HS5 := Lib.hid (HKP.out _ _ _ _ _ _ hs4.out hd4.out hf5.out))
        | (go_at_call 237; (with_reducible refine (dataErr_calls HS5.out hd5.out).mono ?_); rintro e wz ⟨rfl, rfl⟩)
        | (go_at_call 235; (with_reducible refine (HCL2.out _ _ _ _ HS5.out hd5.out).mono ?_); rintro e w6 ⟨rfl, hs6, hf6⟩)
        | (go_at_call 229; (with_reducible refine (HPV.out _ hs6.out).mono ?_); rintro e w7 ⟨bb, dv2, rfl, hb7, hp7, hf7, hg7⟩))
      go_ret
      have hz1 := hf1.out.size
      have hz4 := hf4.out.size
      have hz5 := hf5.out.size
      have hz6 := hf6.out.size
      have hi4' := hi4.out
      refine ⟨bb, dv2, rfl, hb7, hp7, Lib.hid ?_, Lib.hid ?_⟩
      · refine fr_two (fr_two (fr_two (fr_two (hf1.out.mono (fun k hk => .inr (.inl hk))) hf4.out (fun k hk => .inl (hk.elim (fun e => .inl e) (fun e => .inr (.inr e))))) hf5.out (fun k hk => .inr (by omega))) hf6.out ?_) hf7.out ?_
        · rintro k (rfl | hk)
          · exact .inl (.inl rfl)
          · rw [hk.it]; exact .inr (by omega)
        · rintro k (rfl | rfl | hk)
          · exact .inl (.inl rfl)
          · exact .inl (.inr (.inl rfl))
          · exact hk.nil.elim
      · intro k hk
        rcases hg7.out k hk with h1 | h1
        · exact h1.nil.elim
        · exact .inr (by omega)
    · have HL0 := Lib.hid (show ∀ W k (j : Int), DtS V LL ix b R W g k j → Calls Tryz.prog 195 #[.pointer (some ⟨k, 0, none⟩)] W fun e w' => DmTold V LL ix b R g k true (((LL.getD g []).length - 1 : Nat) : Int) W e w' from fun W k j hd => by
        have := dtLast hV (hb _ (mem_at hn HG.out)).1 (hb _ (mem_at hn HG.out)).2 hd
        rw [decide_eq_true (p := 0 < (LL.getD g []).length) (by omega), if_neg hL, show ((LL.getD g []).length : Int) - 1 = (((LL.getD g []).length - 1 : Nat) : Int) by omega] at this
        exact this)
      have HT2 := Lib.hid (show (LL.flatten.length : Int) - 1 = ((offL LL g + ((LL.getD g []).length - 1) : Nat) : Int) ∧ (LL.getD g []).length - 1 < (LL.getD g []).length by omega)
      have HON := Lib.hid ((flat_kv LL g ((LL.getD g []).length - 1) (by omega) (by omega)).1)
      clear h hdv hfar hn hl hb h0 hg hoff htop hL
      go_enter Tryz.func227, Tryz.ntmps227
      go_wp2_with (first
        | (go_at_call 174; (with_reducible refine (Released_calls r1).mono ?_); rintro e wx ⟨rfl, rfl⟩)
        | ((with_reducible refine HIM.out.mono ?_); rintro e w1 ⟨rfl, hs1, hf1⟩; have HD1 := Lib.hid (HDK.out _ hf1.out))
        | (go_at_call 236; (with_reducible refine (HSET.out _ _ HG.out hs1.out HD1.out).mono ?_); rintro e w4 ⟨rfl, i4, hi4, hs4, hd4, hf4⟩; have s4 : w4.cell? ⟨ix, 4, none⟩ = some (dtV i4) := (blk_cell hs4.out.bx 4).trans rfl)
        | ((with_reducible refine (HL0.out _ _ _ hd4.out).mono ?_); rintro e w5 ⟨rfl, hd5, hf5⟩; have HS5 := Lib.hid (HKP.out _ _ _ _ _ _ hs4.out hd4.out hf5.out)))
      go_ret
      have hz1 := hf1.out.size
      have hi4' := hi4.out
      refine ⟨true, dtV i4, rfl, Lib.hid ?_, Lib.hid ⟨_, HS5.out, .inl ⟨g, _, i4, rfl, HG.out, HT2.out.2, rfl, hd5.out, HT2.out.1⟩⟩, Lib.hid ?_, Lib.hid (fun k hk => by rw [hk.it]; exact .inr (by omega))⟩
      · rw [HT2.out.1, HON.out]
      · exact fr_two (fr_two (hf1.out.mono (fun k hk => .inr (.inl hk))) hf4.out (fun k hk => .inl (hk.elim (fun e => .inl e) (fun e => .inr (.inr e))))) hf5.out (fun k hk => .inr (by omega))

set_option maxHeartbeats 6400000 in
set_option maxRecDepth 100000 in
theorem ixSeek_calls (hV : Cmpr V f) (hn : LL.length = n) (hl : n ≤ 4294967296) (hb : ∀ l ∈ LL, l.length ≤ 4294967296 ∧ ∀ x ∈ l, Byt x.f0) (hup : ∀ l ∈ LL, Up f (kvS l)) {B : Option Addr} {d : Nat} {key : List Int} (hA : Kd.C (Kd.int .u8) w B key.length key) (hk : Byt key) (hne : 0 < key.length → ∀ a, B = some a → a.block ≠ ix ∧ a.block ≠ b ∧ ¬ DvB dv a.block) (hp : PlAt V LL A n c ix b R w t dv) :
    Calls Tryz.prog 231 #[.pointer (some ⟨ix, 0, none⟩), .slice B key.length d] w fun e w' => MvTold V LL A n c ix b R dv (findL f key (kvS LL.flatten) : Int) w e w' := by
  obtain ⟨pos, h, hdv, hfar⟩ := hp.open_
  clear hp
  have r2 : w.cell? ⟨ix, 2, none⟩ = some (.iface 203 (.pointer (some ⟨b, 0, none⟩))) := (blk_cell h.bx 2).trans rfl
  have r5 : w.cell? ⟨ix, 5, none⟩ = some .nilIface := (blk_cell h.bx 5).trans rfl
  have r1 : w.cell? ⟨ix, 1, none⟩ = some (.bool false) := (blk_cell h.bx 1).trans rfl
  have n2 : ∀ w, (nilAhead 418 203 (.pointer (some ⟨b, 0, none⟩)) "Seek").run Tryz.prog w = .ok (some false) w := fun w => by kernel_rfl
  have m2 : ∀ w, (method 418 203 (.pointer (some ⟨b, 0, none⟩)) "Seek").run Tryz.prog w = .ok (199, .pointer (some ⟨b, 0, none⟩)) w := fun w => by kernel_rfl
  have q2 : ∀ (args : Array Value) (w : World), (callFunc 199 args).run Tryz.prog w = .ok (.enter 199 args) w := fun args w => Go.MuLone.run_callFunc_enter Tryz.func199 (by kernel_rfl) rfl args w
  have n4 : ∀ (k : Nat) w, (nilAhead 418 161 (.pointer (some ⟨k, 0, none⟩)) "Seek").run Tryz.prog w = .ok (some false) w := fun k w => by kernel_rfl
  have m4 : ∀ (k : Nat) w, (method 418 161 (.pointer (some ⟨k, 0, none⟩)) "Seek").run Tryz.prog w = .ok (199, .pointer (some ⟨k, 0, none⟩)) w := fun k w => by kernel_rfl
  have HCL := Lib.hid (show ∀ W p, IxS V LL A n c ix b R W p dv → DvOk W ix dv → Calls Tryz.prog 235 #[.pointer (some ⟨ix, 0, none⟩)] W fun e w' => e = .returned (.tuple #[]) ∧ Hid (IxS V LL A n c ix b R w' p .nilIface) ∧ Hid (Fr W w' (fun k2 => k2 = ix ∨ DvB dv k2)) from fun W p h1 h2 => clear_state h1 h2 hfar)
  have HSET := Lib.hid (show ∀ W g, g < n → IxS V LL A n c ix b R W (g : Int) dv → DvOk W ix dv → Calls Tryz.prog 236 #[.pointer (some ⟨ix, 0, none⟩)] W fun e w' => SsTold V LL A n c ix b R g dv W e w' from fun W g hg hW hd => set_state hV hn hl hb hW hg hd hfar)
  have HDK := Lib.hid (show ∀ W, Fr w W (fun k => k = b) → DvOk W ix dv from fun W hf => hdv.fr hf (fun {k} e => (hfar k e.1).2.1 e.2))
  have HKP := Lib.hid (show ∀ W W2 p k g (j : Int), IxS V LL A n c ix b R W p (dtV k) → DtS V LL ix b R W g k j → Fr W W2 (fun x => x = k) → IxS V LL A n c ix b R W2 p (dtV k) from fun W W2 p k g j h hd hf => h.fr hf (fun k2 hk e => hd.2.2.1 (by rw [← e]; exact hk)) ((hf.block ix (blk_lt h.bx) (fun e => hd.1 e.symm)).trans h.bx) ((hf.block b (blk_lt h.bb) (fun e => hd.2.1 e.symm)).trans h.bb) h.rng)
  have HIM := Lib.hid (imSeek (d := d) hV hn hl hb h hA hk)
  have hsf := seek_flat hV.ord key LL hup
  have hle := findLL_le f key LL
  by_cases h0 : findLL f key LL < n
  · rw [decide_eq_true h0] at HIM
    have hs1 := hsf.1 (by omega)
    generalize findLL f key LL = g at *
    have HG := Lib.hid h0
    have hon := flat_kv LL g (findL f key (kvS (LL.getD g []))) (by omega) hs1.2
    have HL0 := Lib.hid (show ∀ W k (j : Int), DtS V LL ix b R W g k j → Kd.C (Kd.int .u8) W B key.length key → Calls Tryz.prog 199 #[.pointer (some ⟨k, 0, none⟩), .slice B key.length d] W fun e w' => DmTold V LL ix b R g k true (findL f key (kvS (LL.getD g [])) : Int) W e w' from fun W k j hd hC => by
      have := dtSeek (d := d) hV (hb _ (mem_at hn HG.out)).1 (hb _ (mem_at hn HG.out)).2 hd hC hk (by omega)
      rw [decide_eq_true hs1.2] at this
      exact this)
    have HT2 := Lib.hid (And.intro hs1.1 (And.intro hs1.2 hon.1))
    have HA := Lib.hid (show ∀ W1 W2, Fr w W1 (fun k => k = b) → Fr W1 W2 (fun k => k = ix ∨ DvB dv k) → Kd.C (Kd.int .u8) W2 B key.length key from fun W1 W2 f1 f2 => f2.C (f1.C hA (fun hz a ha => (hne hz a ha).2.1)) (fun hz a ha e => e.elim (hne hz a ha).1 (hne hz a ha).2.2))
    clear h hdv hfar hn hl hb h0 hs1 hsf hle hon hA hk hne hup
    go_enter Tryz.func231, Tryz.ntmps231
    go_wp2_with (first
      | (go_at_call 174; (with_reducible refine (Released_calls r1).mono ?_); rintro e wx ⟨rfl, rfl⟩)
      | ((with_reducible refine HIM.out.mono ?_); rintro e w1 ⟨rfl, hs1, hf1⟩; have HD1 := Lib.hid (HDK.out _ hf1.out))
      | (go_at_call 236; (with_reducible refine (HSET.out _ _ HG.out hs1.out HD1.out).mono ?_); rintro e w4 ⟨rfl, i4, hi4, hs4, hd4, hf4⟩; have s4 : w4.cell? ⟨ix, 4, none⟩ = some (dtV i4) := (blk_cell hs4.out.bx 4).trans rfl)
      | ((with_reducible refine (HL0.out _ _ _ hd4.out (HA.out _ _ hf1.out hf4.out)).mono ?_); rintro e w5 ⟨rfl, hd5, hf5⟩; have HS5 := Lib.hid (HKP.out _ _ _ _ _ _ hs4.out hd4.out hf5.out)))
    go_ret
    have hz1 := hf1.out.size
    have hi4' := hi4.out
    have e1 : ((findL f key (kvS LL.flatten) : Nat) : Int) = ((offL LL g + findL f key (kvS (LL.getD g [])) : Nat) : Int) := by rw [HT2.out.1]
    refine ⟨true, dtV i4, rfl, Lib.hid ?_, Lib.hid ⟨_, HS5.out, .inl ⟨g, _, i4, rfl, HG.out, HT2.out.2.1, rfl, hd5.out, e1⟩⟩, Lib.hid ?_, Lib.hid (fun k hk => by rw [hk.it]; exact .inr (by omega))⟩
    · rw [e1, HT2.out.2.2]
    · exact fr_two (fr_two (hf1.out.mono (fun k hk => .inr (.inl hk))) hf4.out (fun k hk => .inl (hk.elim (fun e => .inl e) (fun e => .inr (.inr e))))) hf5.out (fun k hk => .inr (by omega))
  · have e0 : findLL f key LL = n := by omega
    rw [decide_eq_false h0, e0] at HIM
    have HT := Lib.hid (hsf.2 (by omega))
    have HN := Lib.hid hn
    clear h hdv hfar hn hl hb h0 hsf hle hA hk hne hup e0
    go_enter Tryz.func231, Tryz.ntmps231
    go_wp2_with (first
      | (go_at_call 174; (with_reducible refine (Released_calls r1).mono ?_); rintro e wx ⟨rfl, rfl⟩)
      | ((with_reducible refine HIM.out.mono ?_); rintro e w1 ⟨rfl, hs1, hf1⟩; have HD1 := Lib.hid (HDK.out _ hf1.out))
      | (go_at_call 234; (with_reducible refine (indexErr_calls hs1.out).mono ?_); rintro e wz ⟨rfl, rfl⟩)
      | (go_at_call 235; (with_reducible refine (HCL.out _ _ hs1.out HD1.out).mono ?_); rintro e w2 ⟨rfl, hs2, hf2⟩))
    go_ret
    refine ⟨false, .nilIface, rfl, Lib.hid ?_, Lib.hid ?_, Lib.hid (fr_two (hf1.out.mono (fun k hk => .inr (.inl hk))) hf2.out (fun k hk => .inl (hk.elim (fun e => .inl e) (fun e => .inr (.inr e))))), Lib.hid (fun k hk => hk.nil.elim)⟩
    · rw [HT.out, on_end]
    · rw [HT.out]; exact pl_end HN.out hs2.out
end

end Go.Proofs.YtdkkkikcigjlhaaGreatDoor.Md
