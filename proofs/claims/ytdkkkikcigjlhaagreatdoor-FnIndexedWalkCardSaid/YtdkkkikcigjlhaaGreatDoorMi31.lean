/- An iterator that goes through lists by an index is a cursor on all their pairs. -/
import Derived.Test.YtdkkkikcigjlhaaGreatDoorMi30
set_option linter.unusedVariables false
set_option linter.unusedSimpArgs false
namespace Go.Proofs.YtdkkkikcigjlhaaGreatDoor.Md
open Go.RowKit Go.Proofs.YtdkkkikcigjlhaaGreatDoor.Con Go.Proofs.YtdkkkikcigjlhaaGreatDoor.Run Go.Proofs.YtdkkkikcigjlhaaGreatDoorW.PrintWords Go.Proofs.YtdkkkikcigjlhaaGreatDoorW.PrintMore Go.Proofs.YtdkkkikcigjlhaaGreatDoor.Cmp Go.Sort Go.RwLone Go.Proofs.YtdkkkikcigjlhaaGreatDoor.PFnMemMap

section
variable {V : Value} {f : List Int → List Int → Int} {LL : List (List S44)} {A : Option Addr} {n c ix b : Nat} {R : Nat → Prop} {w w1 : World} {pos p2 : Int} {dv dv2 : Value} {q it : Nat} {i t : Int} {F : Nat → Prop}

def DkTold (V : Value) (LL : List (List S44)) (ix b : Nat) (R : Nat → Prop) (q it : Nat) (i : Int) (k : List Int) (w : World) (e : Ending) (w' : World) : Prop :=
  ∃ B d, e = .returned (.slice B k.length d) ∧ Hid (Kd.C (Kd.int .u8) w' B k.length k) ∧ Hid (DtS V LL ix b R w' q it i) ∧ Hid (Fr w w' (fun k => k = it))

set_option maxHeartbeats 1600000 in
theorem dtKey (hV : Cmpr V f) (hl : (LL.getD q []).length ≤ 4294967296) (hb : ∀ x ∈ LL.getD q [], Byt x.f0) (hd : DtS V LL ix b R w q it i) :
    Calls Tryz.prog 194 #[.pointer (some ⟨it, 0, none⟩)] w fun e w' => DkTold V LL ix b R q it i (keyL (kvS (LL.getD q [])) i) w e w' := by
  obtain ⟨h1, h2, h3, A1, c1, pos2, ka, va, h4⟩ := hd
  have HU := Lib.hid (upd_calls hV rfl hl hb h4)
  have HO := Lib.hid (And.intro h1 (And.intro h2 h3))
  clear hV hl hb h1 h2 h3 h4
  go_enter Tryz.func194, Tryz.ntmps194
  go_wp2_with (go_at_call 202; (with_reducible refine HU.out.mono ?_); rintro e w1 ⟨rfl, k1, v1, hA, hF⟩; obtain ⟨B1, d1, B2, d2, rfl, rfl, g1, g2⟩ := hA.out.kv; have r7 : w1.cell? ⟨it, 7, none⟩ = some (.slice B1 (keyL (kvS (LL.getD q [])) i).length d1) := (blk_cell hA.out.blk 7).trans rfl)
  go_ret
  exact ⟨B1, d1, rfl, Lib.hid (Kd.F_now g1), Lib.hid ⟨HO.out.1, HO.out.2.1, HO.out.2.2, A1, c1, i, _, _, hA.out⟩, hF⟩

set_option maxHeartbeats 1600000 in
theorem dtValue (hV : Cmpr V f) (hl : (LL.getD q []).length ≤ 4294967296) (hb : ∀ x ∈ LL.getD q [], Byt x.f0) (hd : DtS V LL ix b R w q it i) :
    Calls Tryz.prog 201 #[.pointer (some ⟨it, 0, none⟩)] w fun e w' => DkTold V LL ix b R q it i (valL (kvS (LL.getD q [])) i) w e w' := by
  obtain ⟨h1, h2, h3, A1, c1, pos2, ka, va, h4⟩ := hd
  have HU := Lib.hid (upd_calls hV rfl hl hb h4)
  have HO := Lib.hid (And.intro h1 (And.intro h2 h3))
  clear hV hl hb h1 h2 h3 h4
  go_enter Tryz.func201, Tryz.ntmps201
  go_wp2_with (go_at_call 202; (with_reducible refine HU.out.mono ?_); rintro e w1 ⟨rfl, k1, v1, hA, hF⟩; obtain ⟨B1, d1, B2, d2, rfl, rfl, g1, g2⟩ := hA.out.kv; have r7 : w1.cell? ⟨it, 8, none⟩ = some (.slice B2 (valL (kvS (LL.getD q [])) i).length d2) := (blk_cell hA.out.blk 8).trans rfl)
  go_ret
  exact ⟨B2, d2, rfl, Lib.hid (Kd.F_now g2), Lib.hid ⟨HO.out.1, HO.out.2.1, HO.out.2.2, A1, c1, i, _, _, hA.out⟩, hF⟩

theorem off_on (h : (0 < LL.flatten.length → (pos = -1 → t = -1) ∧ (pos = (n : Int) → t = (LL.flatten.length : Int))) ∧ (LL.flatten.length = 0 → t = -1 ∨ t = 0)) (hp : pos = -1 ∨ pos = (n : Int)) : onL (kvS LL.flatten) t = false := by
  by_cases h0 : LL.flatten.length = 0
  · exact onL_nil (by rw [kvS_len]; exact h0) t
  · have h1 := h.1 (by omega)
    rcases hp with hp | hp
    · rw [h1.1 hp]; exact on_begin _
    · rw [h1.2 hp]; exact on_end LL

theorem PlAt.fr (h : PlAt V LL A n c ix b R w t dv) (hk : ∀ k, (k = ix ∨ k = b ∨ R k ∨ DvB dv k) → w1.heap[k]? = w.heap[k]?) (hs : w.heap.size ≤ w1.heap.size) : PlAt V LL A n c ix b R w1 t dv := by
  obtain ⟨pos, h1, h2⟩ := h
  have h3 : IxS V LL A n c ix b R w1 pos dv := ⟨(hk ix (.inl rfl)).trans h1.bx, (hk b (.inr (.inl rfl))).trans h1.bb, Kd.F_step h1.row (fun k hr _ => hk k (.inr (.inr (.inl hr)))), h1.rng, h1.nb, fun k hr => ⟨(h1.nr k hr).1, (h1.nr k hr).2.1, Nat.lt_of_lt_of_le (h1.nr k hr).2.2 hs⟩⟩
  refine ⟨pos, h3, ?_⟩
  rcases h2 with ⟨q, i, it, hq, hqn, hi, rfl, ⟨e1, e2, e3, A1, c1, p2, ka, va, e4⟩, ht⟩ | h2
  · refine .inl ⟨q, i, it, hq, hqn, hi, rfl, ⟨e1, e2, e3, A1, c1, p2, ka, va, e4.keep (fun k hk2 => hk k ?_) hs⟩, ht⟩
    rcases hk2 with hk2 | rfl
    · exact .inr (.inr (.inl hk2))
    · exact .inr (.inr (.inr rfl))
  · exact .inr h2

theorem kp_state {p : Int} (h : IxS V LL A n c ix b R w p (dtV it)) (hd : DtS V LL ix b R w q it i) (hf : Fr w w1 (fun x => x = it)) : IxS V LL A n c ix b R w1 p (dtV it) :=
  h.fr hf (fun k2 hk e => hd.2.2.1 (by rw [← e]; exact hk)) ((hf.block ix (blk_lt h.bx) (fun e => hd.1 e.symm)).trans h.bx) ((hf.block b (blk_lt h.bb) (fun e => hd.2.1 e.symm)).trans h.bb) h.rng

set_option maxHeartbeats 3200000 in
set_option maxRecDepth 100000 in
theorem ixValid_calls (hV : Cmpr V f) (hn : LL.length = n) (hb : ∀ l ∈ LL, l.length ≤ 4294967296 ∧ ∀ x ∈ l, Byt x.f0) (hp : PlAt V LL A n c ix b R w t dv) :
    Calls Tryz.prog 232 #[.pointer (some ⟨ix, 0, none⟩)] w fun e w' => MvTold V LL A n c ix b R dv t w e w' := by
  have HP := Lib.hid hp
  obtain ⟨pos, h, ⟨q, i, it, rfl, hq, hi, rfl, hd, ht⟩ | ⟨rfl, hpp, ho⟩⟩ := hp
  · have r4 : w.cell? ⟨ix, 4, none⟩ = some (dtV it) := (blk_cell h.bx 4).trans rfl
    have n4 : ∀ (k : Nat) w, (nilAhead 418 161 (.pointer (some ⟨k, 0, none⟩)) "Valid").run Tryz.prog w = .ok (some false) w := fun k w => by kernel_rfl
    have m4 : ∀ (k : Nat) w, (method 418 161 (.pointer (some ⟨k, 0, none⟩)) "Valid").run Tryz.prog w = .ok (200, .pointer (some ⟨k, 0, none⟩)) w := fun k w => by kernel_rfl
    have q4 : ∀ (args : Array Value) (w : World), (callFunc 200 args).run Tryz.prog w = .ok (.enter 200 args) w := fun args w => Go.MuLone.run_callFunc_enter Tryz.func200 (by kernel_rfl) rfl args w
    have hd2 := hd
    obtain ⟨h1, h2, h3, A1, c1, pos2, ka, va, h4⟩ := hd2
    have HV := baValid (arr_barr hV rfl (hb _ (mem_at hn hq)).1 (hb _ (mem_at hn hq)).2 (fun _ => True)) h4.blk h4.is
    rw [decide_eq_true (p := (0 : Int) ≤ (i : Int)) (by omega), decide_eq_true (p := (i : Int) < ((LL.getD q []).length : Int)) (by omega)] at HV
    have HVV := Lib.hid (show Calls Tryz.prog 200 #[.pointer (some ⟨it, 0, none⟩)] w fun e w' => e = .returned (.bool true) ∧ Hid (Below w.heap.size w w') from HV)
    have HON := Lib.hid (show onL (kvS LL.flatten) t = true by rw [ht]; exact (flat_kv LL q i (by omega) hi).1)
    have HIN := Lib.hid (show ∀ k, (k = ix ∨ k = b ∨ R k ∨ DvB (dtV it) k) → k < w.heap.size from fun k hk => by
      rcases hk with rfl | rfl | hk | hk
      · exact blk_lt h.bx
      · exact blk_lt h.bb
      · exact (h.nr k hk).2.2
      · rw [hk.it]; exact blk_lt h4.blk)
    clear HV hV hn hb h hq hi hd ht h1 h2 h3 h4
    go_enter Tryz.func232, Tryz.ntmps232
    go_wp2_with ((with_reducible refine HVV.out.mono ?_); rintro e w1 ⟨rfl, hbl⟩)
    go_ret
    exact ⟨true, dtV it, rfl, Lib.hid HON.out.symm, Lib.hid (HP.out.fr (fun k hk => hbl.out.block k (HIN.out k hk)) hbl.out.size), Lib.hid (Fr.of_below hbl.out _), Lib.hid (fun k hk => .inl hk)⟩
  · have r4 : w.cell? ⟨ix, 4, none⟩ = some .nilIface := (blk_cell h.bx 4).trans rfl
    have HON := Lib.hid (off_on ho hpp)
    clear hV hn hb h hpp ho
    go_enter Tryz.func232, Tryz.ntmps232
    go_wp2
    go_ret
    exact ⟨false, .nilIface, rfl, Lib.hid HON.out.symm, HP, Lib.hid (Fr.refl _ _), Lib.hid (fun k hk => .inl hk)⟩

set_option maxHeartbeats 3200000 in
theorem ixError_calls (hp : PlAt V LL A n c ix b R w t dv) :
    Calls Tryz.prog 224 #[.pointer (some ⟨ix, 0, none⟩)] w fun e w' => e = .returned .nilIface ∧ w = w' := by
  obtain ⟨pos, h, -⟩ := hp
  have r2 : w.cell? ⟨ix, 2, none⟩ = some (.iface 203 (.pointer (some ⟨b, 0, none⟩))) := (blk_cell h.bx 2).trans rfl
  have r5 : w.cell? ⟨ix, 5, none⟩ = some .nilIface := (blk_cell h.bx 5).trans rfl
  have n2 : ∀ w, (nilAhead 418 203 (.pointer (some ⟨b, 0, none⟩)) "Error").run Tryz.prog w = .ok (some false) w := fun w => by kernel_rfl
  have m2 : ∀ w, (method 418 203 (.pointer (some ⟨b, 0, none⟩)) "Error").run Tryz.prog w = .ok (192, .pointer (some ⟨b, 0, none⟩)) w := fun w => by kernel_rfl
  have q2 : ∀ (args : Array Value) (w : World), (callFunc 192 args).run Tryz.prog w = .ok (.enter 192 args) w := fun args w => Go.MuLone.run_callFunc_enter Tryz.func192 (by kernel_rfl) rfl args w
  have HE := Lib.hid (baError h.bb (id_is V A n c pos))
  clear h
  go_enter Tryz.func224, Tryz.ntmps224
  go_wp2_with ((with_reducible refine HE.out.mono ?_); rintro e w1 ⟨rfl, rfl⟩)
  go_ret
  exact ⟨rfl, rfl⟩

def IkTold (V : Value) (LL : List (List S44)) (A : Option Addr) (n c ix b : Nat) (R : Nat → Prop) (dv : Value) (t : Int) (k : List Int) (w : World) (e : Ending) (w' : World) : Prop :=
  ∃ B d, e = .returned (.slice B k.length d) ∧ Hid (Kd.C (Kd.int .u8) w' B k.length k) ∧ Hid (PlAt V LL A n c ix b R w' t dv) ∧ Hid (Fr w w' (fun k => DvB dv k))

set_option maxHeartbeats 3200000 in
set_option maxRecDepth 100000 in
theorem ixKey_calls (hV : Cmpr V f) (hn : LL.length = n) (hb : ∀ l ∈ LL, l.length ≤ 4294967296 ∧ ∀ x ∈ l, Byt x.f0) (hp : PlAt V LL A n c ix b R w t dv) :
    Calls Tryz.prog 226 #[.pointer (some ⟨ix, 0, none⟩)] w fun e w' => IkTold V LL A n c ix b R dv t (keyL (kvS LL.flatten) t) w e w' := by
  have HP := Lib.hid hp
  obtain ⟨pos, h, ⟨q, i, it, rfl, hq, hi, rfl, hd, ht⟩ | ⟨rfl, hpp, ho⟩⟩ := hp
  · have r4 : w.cell? ⟨ix, 4, none⟩ = some (dtV it) := (blk_cell h.bx 4).trans rfl
    have n4 : ∀ (k : Nat) w, (nilAhead 418 161 (.pointer (some ⟨k, 0, none⟩)) "Key").run Tryz.prog w = .ok (some false) w := fun k w => by kernel_rfl
    have m4 : ∀ (k : Nat) w, (method 418 161 (.pointer (some ⟨k, 0, none⟩)) "Key").run Tryz.prog w = .ok (194, .pointer (some ⟨k, 0, none⟩)) w := fun k w => by kernel_rfl
    have q4 : ∀ (args : Array Value) (w : World), (callFunc 194 args).run Tryz.prog w = .ok (.enter 194 args) w := fun args w => Go.MuLone.run_callFunc_enter Tryz.func194 (by kernel_rfl) rfl args w

    have HKV := Lib.hid (dtKey hV (hb _ (mem_at hn hq)).1 (hb _ (mem_at hn hq)).2 hd)
    have HE := Lib.hid (show keyL (kvS LL.flatten) t = keyL (kvS (LL.getD q [])) (i : Int) by rw [ht]; exact (flat_kv LL q i (by omega) hi).2.1)
    have HH := Lib.hid (And.intro h (And.intro hd (And.intro hq (And.intro hi ht))))
    clear hV hn hb h hq hi hd ht
    go_enter Tryz.func226, Tryz.ntmps226
    go_wp2_with ((with_reducible refine HKV.out.mono ?_); rintro e w1 ⟨B1, d1, rfl, hC, hd1, hf1⟩)
    go_ret
    have e := HE.out
    refine ⟨B1, d1, (by rw [e]; rfl), Lib.hid (by rw [e]; exact hC.out), Lib.hid ⟨_, kp_state HH.out.1 HH.out.2.1 hf1.out, .inl ⟨q, i, it, rfl, HH.out.2.2.1, HH.out.2.2.2.1, rfl, hd1.out, HH.out.2.2.2.2⟩⟩, Lib.hid (hf1.out.mono (fun k hk => by rw [hk]; rfl))⟩
  · have r4 : w.cell? ⟨ix, 4, none⟩ = some .nilIface := (blk_cell h.bx 4).trans rfl
    have HON := Lib.hid ((keyL_off (off_on ho hpp)).1)
    clear hV hn hb h hpp ho
    go_enter Tryz.func226, Tryz.ntmps226
    go_wp2
    go_ret
    have e := HON.out
    exact ⟨none, 0, (by rw [e]; rfl), Lib.hid (by rw [e]; exact Kd.C_nil _ _), HP, Lib.hid (Fr.refl _ _)⟩

set_option maxHeartbeats 3200000 in
set_option maxRecDepth 100000 in
theorem ixValue_calls (hV : Cmpr V f) (hn : LL.length = n) (hb : ∀ l ∈ LL, l.length ≤ 4294967296 ∧ ∀ x ∈ l, Byt x.f0) (hp : PlAt V LL A n c ix b R w t dv) :
    Calls Tryz.prog 233 #[.pointer (some ⟨ix, 0, none⟩)] w fun e w' => IkTold V LL A n c ix b R dv t (valL (kvS LL.flatten) t) w e w' := by
  have HP := Lib.hid hp
  obtain ⟨pos, h, ⟨q, i, it, rfl, hq, hi, rfl, hd, ht⟩ | ⟨rfl, hpp, ho⟩⟩ := hp
  · have r4 : w.cell? ⟨ix, 4, none⟩ = some (dtV it) := (blk_cell h.bx 4).trans rfl
    have n4 : ∀ (k : Nat) w, (nilAhead 418 161 (.pointer (some ⟨k, 0, none⟩)) "Value").run Tryz.prog w = .ok (some false) w := fun k w => by kernel_rfl
    have m4 : ∀ (k : Nat) w, (method 418 161 (.pointer (some ⟨k, 0, none⟩)) "Value").run Tryz.prog w = .ok (201, .pointer (some ⟨k, 0, none⟩)) w := fun k w => by kernel_rfl
    have q4 : ∀ (args : Array Value) (w : World), (callFunc 201 args).run Tryz.prog w = .ok (.enter 201 args) w := fun args w => Go.MuLone.run_callFunc_enter Tryz.func201 (by kernel_rfl) rfl args w

    have HKV := Lib.hid (dtValue hV (hb _ (mem_at hn hq)).1 (hb _ (mem_at hn hq)).2 hd)
    have HE := Lib.hid (show valL (kvS LL.flatten) t = valL (kvS (LL.getD q [])) (i : Int) by rw [ht]; exact (flat_kv LL q i (by omega) hi).2.2)
    have HH := Lib.hid (And.intro h (And.intro hd (And.intro hq (And.intro hi ht))))
    clear hV hn hb h hq hi hd ht
    go_enter Tryz.func233, Tryz.ntmps233
    go_wp2_with ((with_reducible refine HKV.out.mono ?_); rintro e w1 ⟨B1, d1, rfl, hC, hd1, hf1⟩)
    go_ret
    have e := HE.out
    refine ⟨B1, d1, (by rw [e]; rfl), Lib.hid (by rw [e]; exact hC.out), Lib.hid ⟨_, kp_state HH.out.1 HH.out.2.1 hf1.out, .inl ⟨q, i, it, rfl, HH.out.2.2.1, HH.out.2.2.2.1, rfl, hd1.out, HH.out.2.2.2.2⟩⟩, Lib.hid (hf1.out.mono (fun k hk => by rw [hk]; rfl))⟩
  · have r4 : w.cell? ⟨ix, 4, none⟩ = some .nilIface := (blk_cell h.bx 4).trans rfl
    have HON := Lib.hid ((keyL_off (off_on ho hpp)).2)
    clear hV hn hb h hpp ho
    go_enter Tryz.func233, Tryz.ntmps233
    go_wp2
    go_ret
    have e := HON.out
    exact ⟨none, 0, (by rw [e]; rfl), Lib.hid (by rw [e]; exact Kd.C_nil _ _), HP, Lib.hid (Fr.refl _ _)⟩

def IxSt (V : Value) (LL : List (List S44)) (A : Option Addr) (n c ix b : Nat) (R : Nat → Prop) (w : World) (t : Int) (F : Nat → Prop) : Prop :=
  ∃ dv, PlAt V LL A n c ix b R w t dv ∧ ∀ k, F k ↔ (k = ix ∨ k = b ∨ R k ∨ DvB dv k)

theorem ix_mv {K : Nat} {args : Array Value} {j : Int} (hF : ∀ k, F k ↔ (k = ix ∨ k = b ∨ R k ∨ DvB dv k))
    (hc : Calls Tryz.prog K args w fun e w' => MvTold V LL A n c ix b R dv j w e w') :
    Calls Tryz.prog K args w fun e w' => ∃ bb, e = .returned (.bool bb) ∧ Hid (bb = onL (kvS LL.flatten) j) ∧ Hid (Mv (IxSt V LL A n c ix b R) w F j w') := by
  refine hc.mono ?_
  rintro e w' ⟨bb, dv2, rfl, h1, h2, h3, h4⟩
  refine ⟨bb, rfl, h1, Lib.hid ⟨fun k => k = ix ∨ k = b ∨ R k ∨ DvB dv2 k, ⟨dv2, h2.out, fun k => Iff.rfl⟩, h3.out.mono (fun k hk => (hF k).2 ?_), fun k hk => ?_⟩⟩
  · rcases hk with hk | hk | hk
    · exact .inl hk
    · exact .inr (.inl hk)
    · exact .inr (.inr (.inr hk))
  · rcases hk with hk | hk | hk | hk
    · exact .inl ((hF k).2 (.inl hk))
    · exact .inl ((hF k).2 (.inr (.inl hk)))
    · exact .inl ((hF k).2 (.inr (.inr (.inl hk))))
    · rcases h4.out k hk with h5 | h5
      · exact .inl ((hF k).2 (.inr (.inr (.inr h5))))
      · exact .inr h5

theorem PlAt.top (h : PlAt V LL A n c ix b R w t dv) : ∀ k, (k = ix ∨ k = b ∨ R k ∨ DvB dv k) → k < w.heap.size := by
  obtain ⟨pos, h1, h2⟩ := h
  rintro k (rfl | rfl | hk | hk)
  · exact blk_lt h1.bx
  · exact blk_lt h1.bb
  · exact (h1.nr k hk).2.2
  · rcases h2 with ⟨q, i, it, -, -, -, rfl, ⟨-, -, -, _, _, _, _, _, h4⟩, -⟩ | ⟨rfl, -⟩
    · rw [hk.it]; exact blk_lt h4.blk
    · exact hk.nil.elim

theorem nx_of (hn : LL.length = n) (h : PlAt V LL A n c ix b R w t dv) : ∃ (pos : Int) (u : Nat), IxS V LL A n c ix b R w pos dv ∧ NxAt V LL n ix b R w pos dv u ∧ (u : Int) = mvL f (kvS LL.flatten) t 2 [] := by
  obtain ⟨pos, h1, h2⟩ := h
  have hm : mvL f (kvS LL.flatten) t 2 [] = if t + 1 ≤ (LL.flatten.length : Int) then t + 1 else (LL.flatten.length : Int) := by
    show (if t + 1 ≤ ((kvS LL.flatten).length : Int) then t + 1 else ((kvS LL.flatten).length : Int)) = _
    rw [kvS_len]
  rw [hm]
  rcases h2 with ⟨q, i, it, rfl, hq, hi, rfl, hd, rfl⟩ | ⟨rfl, hp, h3, h4⟩
  · have h5 := off_in LL q i (by omega) hi
    refine ⟨_, offL LL q + i + 1, h1, .inr ⟨q, it, (i : Int), rfl, hq, rfl, hd, by omega, by omega⟩, ?_⟩
    rw [if_pos (by omega)]
    omega
  · refine ⟨pos, offL LL (pos + 1).toNat, h1, .inl ⟨rfl, rfl⟩, ?_⟩
    by_cases h0 : LL.flatten.length = 0
    · have h5 := off_le LL (pos + 1).toNat
      rcases h4 h0 with e | e <;> rw [e] <;> split <;> omega
    · have h5 := h3 (by omega)
      rcases hp with hp | hp
      · rw [h5.1 hp, hp]
        have : ((-1 : Int) + 1).toNat = 0 := rfl
        rw [this, off_zero]
        split <;> omega
      · rw [h5.2 hp, off_top LL _ (by omega), if_neg (by omega)]
theorem pv_of (hn : LL.length = n) (h : PlAt V LL A n c ix b R w t dv) : ∃ (pos : Int), IxS V LL A n c ix b R w pos dv ∧ PvAt V LL n ix b R w pos dv (mvL f (kvS LL.flatten) t 3 []) := by
  obtain ⟨pos, h1, h2⟩ := h
  have hm : mvL f (kvS LL.flatten) t 3 [] = if -1 ≤ t - 1 then t - 1 else -1 := rfl
  rw [hm]
  rcases h2 with ⟨q, i, it, rfl, hq, hi, rfl, hd, rfl⟩ | ⟨rfl, hp, h3, h4⟩
  · refine ⟨_, h1, .inr ⟨q, it, (i : Int), rfl, hq, rfl, hd, by omega, by omega, ?_⟩⟩
    rw [if_pos (by omega)]
    omega
  · refine ⟨pos, h1, .inl ⟨rfl, ?_⟩⟩
    by_cases h0 : LL.flatten.length = 0
    · have h5 := off_le LL pos.toNat
      rcases h4 h0 with e | e <;> rw [e] <;> split <;> omega
    · have h5 := h3 (by omega)
      rcases hp with hp | hp
      · rw [h5.1 hp, hp]
        have : ((-1 : Int)).toNat = 0 := rfl
        rw [this, off_zero]
        rfl
      · rw [h5.2 hp, off_top LL _ (by omega), if_pos (by omega)]

set_option maxRecDepth 100000 in
theorem ix_iter (hV : Cmpr V f) (hn : LL.length = n) (hl : n ≤ 4294967296) (hb : ∀ l ∈ LL, l.length ≤ 4294967296 ∧ ∀ x ∈ l, Byt x.f0) (hup : ∀ l ∈ LL, Up f (kvS l)) :
    Iter f 198 (.pointer (some ⟨ix, 0, none⟩)) 225 227 228 229 231 232 224 226 233
      (kvS LL.flatten) (IxSt V LL A n c ix b R) where
  n := by
    intro m hm w
    simp only [List.mem_cons, List.not_mem_nil, or_false] at hm
    rcases hm with rfl | rfl | rfl | rfl | rfl | rfl | rfl | rfl | rfl <;> kernel_rfl
  mF := fun w => by kernel_rfl
  mL := fun w => by kernel_rfl
  mN := fun w => by kernel_rfl
  mP := fun w => by kernel_rfl
  mS := fun w => by kernel_rfl
  mV := fun w => by kernel_rfl
  mE := fun w => by kernel_rfl
  mK := fun w => by kernel_rfl
  mU := fun w => by kernel_rfl
  c := by
    intro k hk args w
    simp only [List.mem_cons, List.not_mem_nil, or_false] at hk
    rcases hk with rfl | rfl | rfl | rfl | rfl | rfl | rfl | rfl | rfl
    · exact Go.MuLone.run_callFunc_enter Tryz.func225 (by kernel_rfl) rfl args w
    · exact Go.MuLone.run_callFunc_enter Tryz.func227 (by kernel_rfl) rfl args w
    · exact Go.MuLone.run_callFunc_enter Tryz.func228 (by kernel_rfl) rfl args w
    · exact Go.MuLone.run_callFunc_enter Tryz.func229 (by kernel_rfl) rfl args w
    · exact Go.MuLone.run_callFunc_enter Tryz.func231 (by kernel_rfl) rfl args w
    · exact Go.MuLone.run_callFunc_enter Tryz.func232 (by kernel_rfl) rfl args w
    · exact Go.MuLone.run_callFunc_enter Tryz.func224 (by kernel_rfl) rfl args w
    · exact Go.MuLone.run_callFunc_enter Tryz.func226 (by kernel_rfl) rfl args w
    · exact Go.MuLone.run_callFunc_enter Tryz.func233 (by kernel_rfl) rfl args w
  inside := by
    rintro w i F ⟨dv, h, hF⟩ k hk
    exact h.top k ((hF k).1 hk)
  keep := by
    rintro w w1 i F ⟨dv, h, hF⟩ hk hs
    exact ⟨dv, h.fr (fun k hk2 => hk k ((hF k).2 hk2)) hs, hF⟩
  first := by
    rintro w i F ⟨dv, h, hF⟩
    exact ix_mv hF (ixFirst_calls hV hn hl hb h)
  last := by
    rintro w i F ⟨dv, h, hF⟩
    rw [kvS_len]
    exact ix_mv hF (ixLast_calls hV hn hl hb h)
  next := by
    rintro w i F ⟨dv, h, hF⟩
    obtain ⟨pos, u, h1, h2, h3⟩ := nx_of (f := f) hn h
    have h4 := h1.rng
    rw [← h3]
    exact ix_mv hF (ixNext_calls hV hn hl hb (n + 2) w pos dv u (by omega) h1 h2)
  prev := by
    rintro w i F ⟨dv, h, hF⟩
    obtain ⟨pos, h1, h2⟩ := pv_of (f := f) hn h
    have h4 := h1.rng
    exact ix_mv hF (ixPrev_calls hV hn hl hb (n + 2) w pos dv _ (by omega) h1 h2)
  seek := by
    rintro w i F ⟨dv, h, hF⟩ B d key hA hk hne
    exact ix_mv hF (ixSeek_calls hV hn hl hb hup hA hk (fun hz a ha => ⟨fun e => hne hz a ha ((hF _).2 (.inl e)), fun e => hne hz a ha ((hF _).2 (.inr (.inl e))), fun e => hne hz a ha ((hF _).2 (.inr (.inr (.inr e))))⟩) h)
  valid := by
    rintro w i F ⟨dv, h, hF⟩
    exact ix_mv hF (ixValid_calls hV hn hb h)
  error := by
    rintro w i F ⟨dv, h, hF⟩
    refine (ixError_calls h).mono ?_
    rintro e w' ⟨rfl, rfl⟩
    exact ⟨rfl, Lib.hid ⟨F, ⟨dv, h, hF⟩, Fr.refl _ _, fun k hk => .inl hk⟩⟩
  key := by
    rintro w i F ⟨dv, h, hF⟩
    refine (ixKey_calls hV hn hb h).mono ?_
    rintro e w' ⟨B, d, rfl, h1, h2, h3⟩
    exact ⟨B, d, rfl, h1, Lib.hid ⟨F, ⟨dv, h2.out, hF⟩, h3.out.mono (fun k hk => (hF k).2 (.inr (.inr (.inr hk)))), fun k hk => .inl hk⟩⟩
  value := by
    rintro w i F ⟨dv, h, hF⟩
    refine (ixValue_calls hV hn hb h).mono ?_
    rintro e w' ⟨B, d, rfl, h1, h2, h3⟩
    exact ⟨B, d, rfl, h1, Lib.hid ⟨F, ⟨dv, h2.out, hF⟩, h3.out.mono (fun k hk => (hF k).2 (.inr (.inr (.inr hk)))), fun k hk => .inl hk⟩⟩
end

end Go.Proofs.YtdkkkikcigjlhaaGreatDoor.Md
