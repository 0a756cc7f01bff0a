/- An iterator that merges iterators: one of its iterators. -/
import Derived.Test.YtdkkkikcigjlhaaGreatDoorMj35
import Derived.Test.YtdkkkikcigjlhaaGreatDoorMj36
import Derived.Test.YtdkkkikcigjlhaaGreatDoorMj33
set_option linter.unusedVariables false
set_option linter.unusedSimpArgs false
namespace Go.Proofs.YtdkkkikcigjlhaaGreatDoor.Md
open Go.RowKit Go.Proofs.YtdkkkikcigjlhaaGreatDoor.Con Go.Proofs.YtdkkkikcigjlhaaGreatDoor.Run Go.Proofs.YtdkkkikcigjlhaaGreatDoorW.PrintWords Go.Proofs.YtdkkkikcigjlhaaGreatDoorW.PrintMore Go.Proofs.YtdkkkikcigjlhaaGreatDoor.Cmp Go.Sort Go.RwLone Go.Proofs.YtdkkkikcigjlhaaGreatDoor.PFnMemMap

def DtN (V : Value) (LL : List (List S44)) (m kb : Nat) (R : Nat → Prop) (w : World) (q it : Nat) (i : Int) : Prop :=
  it ≠ m ∧ it ≠ kb ∧ ¬ R it ∧ ∃ A1 c1 pos2 ka va, ArAt V (LL.getD q []) A1 (LL.getD q []).length c1 it (fun k => R k ∨ k = it) w i i pos2 ka va ∧ Kd.F k44n w R A1 (LL.getD q []).length (LL.getD q []) ∧ (onL (kvS (LL.getD q [])) pos2 = true → NotNil ka)

def DnTold (V : Value) (LL : List (List S44)) (m kb : Nat) (R : Nat → Prop) (q it : Nat) (bb : Bool) (j : Int) (w : World) (e : Ending) (w' : World) : Prop :=
  e = .returned (.bool bb) ∧ Hid (DtN V LL m kb R w' q it j) ∧ Hid (Fr w w' (fun k => k = it))

section
variable {V : Value} {f : List Int → List Int → Int} {LL : List (List S44)} {m kb : Nat} {R : Nat → Prop} {w w1 : World} {q it : Nat} {i : Int}

theorem DtN.fr (h : DtN V LL m kb R w q it i) {S : Nat → Prop} (hf : Fr w w1 S) (hs : ∀ k, R k → ¬ S k) (hi : ¬ S it) : DtN V LL m kb R w1 q it i := by
  obtain ⟨h1, h2, h3, A1, c1, pos2, ka, va, h4, h5, h6⟩ := h
  refine ⟨h1, h2, h3, A1, c1, pos2, ka, va, h4.keep (fun k hk => hf.block k (h4.top k hk) ?_) hf.size, Kd.F_step h5 (fun k hk hl => hf.block k hl (hs k hk)), h6⟩
  rcases hk with hk | rfl
  · exact hs k hk
  · exact hi

theorem dn_told {A1 : Option Addr} {c1 : Nat} {pos2 : Int} {ka va : Value} {K : Nat} {args : Array Value} {bb b2 : Bool} {p j : Int} (h1 : it ≠ m) (h2 : it ≠ kb) (h3 : ¬ R it) (h4 : ArAt V (LL.getD q []) A1 (LL.getD q []).length c1 it (fun k => R k ∨ k = it) w i i pos2 ka va) (h5 : Kd.F k44n w R A1 (LL.getD q []).length (LL.getD q [])) (h6 : onL (kvS (LL.getD q [])) pos2 = true → NotNil ka)
    (hp : p = j) (hb : bb = b2) (hr : -1 ≤ p ∧ p ≤ ((LL.getD q []).length : Int)) (h0 : (LL.getD q []).length = 0 → p = -1 ∨ p = 0)
    (hc : Calls Tryz.prog K args w fun e w' => BaTold w it 167 (arCells (arI V A1 (LL.getD q []).length c1) i pos2 ka va) bb p e w') :
    Calls Tryz.prog K args w fun e w' => DnTold V LL m kb R q it b2 j w e w' := by
  subst hp hb
  refine hc.mono ?_
  rintro e w' ⟨rfl, hf, hblk⟩
  exact ⟨rfl, Lib.hid ⟨h1, h2, h3, A1, c1, pos2, ka, va, h4.fr hf.out hblk.out (h4.kv.step (fun k ho hk => hf.out.block k hk ho.2)) hr ⟨fun _ => rfl, h0⟩, Kd.F_step h5 (fun k hk hl => hf.out.block k hl (fun e => h3 (by rw [← e]; exact hk))), h6⟩, hf⟩

theorem dnFirst (hV : Cmpr V f) (hl : (LL.getD q []).length ≤ 4294967296) (hb : ∀ x ∈ LL.getD q [], Byt x.f0) (hd : DtN V LL m kb R w q it i) :
    Calls Tryz.prog 193 #[.pointer (some ⟨it, 0, none⟩)] w fun e w' => DnTold V LL m kb R q it (decide (0 < (LL.getD q []).length)) (if (LL.getD q []).length = 0 then -1 else 0) w e w' := by
  obtain ⟨h1, h2, h3, A1, c1, pos2, ka, va, h4, h5, h6⟩ := hd
  refine dn_told h1 h2 h3 h4 h5 h6 rfl rfl ?_ ?_ (baFirst (arr_barr hV rfl hl hb (fun _ => True)) h4.blk h4.is)
  · split <;> omega
  · intro h0; rw [if_pos h0]; exact .inl rfl
theorem dnNext (hV : Cmpr V f) (hl : (LL.getD q []).length ≤ 4294967296) (hb : ∀ x ∈ LL.getD q [], Byt x.f0) (hd : DtN V LL m kb R w q it i) :
    Calls Tryz.prog 196 #[.pointer (some ⟨it, 0, none⟩)] w fun e w' => DnTold V LL m kb R q it (decide (i + 1 < ((LL.getD q []).length : Int))) (if i + 1 < ((LL.getD q []).length : Int) then i + 1 else ((LL.getD q []).length : Int)) w e w' := by
  obtain ⟨h1, h2, h3, A1, c1, pos2, ka, va, h4, h5, h6⟩ := hd
  have hr := h4.rng
  refine dn_told h1 h2 h3 h4 h5 h6 rfl rfl ?_ ?_ (baNext (arr_barr hV rfl hl hb (fun _ => True)) h4.blk h4.is h4.rng)
  · split <;> omega
  · intro h0; rw [h0] at hr ⊢; split <;> omega
theorem dnPrev (hl : (LL.getD q []).length ≤ 4294967296) (hd : DtN V LL m kb R w q it i) :
    Calls Tryz.prog 197 #[.pointer (some ⟨it, 0, none⟩)] w fun e w' => DnTold V LL m kb R q it (decide (0 ≤ i - 1)) (if 0 ≤ i - 1 then i - 1 else -1) w e w' := by
  obtain ⟨h1, h2, h3, A1, c1, pos2, ka, va, h4, h5, h6⟩ := hd
  have hr := h4.rng
  refine dn_told h1 h2 h3 h4 h5 h6 rfl rfl ?_ ?_ (baPrev h4.blk h4.is ⟨hr.1, by omega⟩)
  · split <;> omega
  · intro h0; rw [h0] at hr; exact .inl (if_neg (by omega))
theorem dnLast (hV : Cmpr V f) (hl : (LL.getD q []).length ≤ 4294967296) (hb : ∀ x ∈ LL.getD q [], Byt x.f0) (hd : DtN V LL m kb R w q it i) :
    Calls Tryz.prog 195 #[.pointer (some ⟨it, 0, none⟩)] w fun e w' => DnTold V LL m kb R q it (decide (0 < (LL.getD q []).length)) (if (LL.getD q []).length = 0 then 0 else ((LL.getD q []).length : Int) - 1) w e w' := by
  obtain ⟨h1, h2, h3, A1, c1, pos2, ka, va, h4, h5, h6⟩ := hd
  refine dn_told h1 h2 h3 h4 h5 h6 rfl rfl ?_ ?_ (baLast (arr_barr hV rfl hl hb (fun _ => True)) h4.blk h4.is)
  · split <;> omega
  · intro h0; rw [if_pos h0]; exact .inr rfl
theorem dnSeek (hV : Cmpr V f) (hl : (LL.getD q []).length ≤ 4294967296) (hb : ∀ x ∈ LL.getD q [], Byt x.f0) (hd : DtN V LL m kb R w q it i) {B : Option Addr} {d : Nat} {key : List Int} (hA : Kd.C (Kd.int .u8) w B key.length key) (hk : Byt key) :
    Calls Tryz.prog 199 #[.pointer (some ⟨it, 0, none⟩), .slice B key.length d] w fun e w' => DnTold V LL m kb R q it (decide (findL f key (kvS (LL.getD q [])) < (LL.getD q []).length)) (findL f key (kvS (LL.getD q [])) : Int) w e w' := by
  obtain ⟨h1, h2, h3, A1, c1, pos2, ka, va, h4, h5, h6⟩ := hd
  have hfl := findL_le f key (kvS (LL.getD q []))
  rw [kvS_len] at hfl
  exact dn_told h1 h2 h3 h4 h5 h6 (by split <;> omega) rfl (by split <;> omega) (fun h0 => by rw [if_pos h0]; exact .inr rfl) (baSeek (arr_barr hV rfl hl hb (fun k => (R k ∨ k = it) ∧ k ≠ it)) h4.blk h4.is h4.row hA hk)

theorem keyL_byt {l : List S44} (hb : ∀ x ∈ l, Byt x.f0) (i : Int) : Byt (keyL (kvS l) i) := by
  unfold keyL
  split
  · rename_i h
    unfold onL at h
    rw [Bool.and_eq_true, decide_eq_true_iff, decide_eq_true_iff, kvS_len] at h
    have h2 : i.toNat < l.length := by omega
    have e := kvS_at l h2
    rw [e]
    refine hb _ ?_
    rw [List.getD_eq_getElem?_getD, List.getElem?_eq_getElem h2]
    exact List.getElem_mem _
  · intro x hx; cases hx

def DyTold (V : Value) (LL : List (List S44)) (m kb : Nat) (R : Nat → Prop) (q it : Nat) (i : Int) (w : World) (e : Ending) (w' : World) : Prop :=
  ∃ a c, e = .returned (.slice (some a) (keyL (kvS (LL.getD q [])) i).length c) ∧ Hid (Kd.F (Kd.int .u8) w' R (some a) (keyL (kvS (LL.getD q [])) i).length (keyL (kvS (LL.getD q [])) i)) ∧ Hid (DtN V LL m kb R w' q it i) ∧ Hid (Fr w w' (fun k => k = it))

set_option maxHeartbeats 1600000 in
theorem dnKey (hV : Cmpr V f) (hl : (LL.getD q []).length ≤ 4294967296) (hb : ∀ x ∈ LL.getD q [], Byt x.f0) (hd : DtN V LL m kb R w q it i) (hon : onL (kvS (LL.getD q [])) i = true) :
    Calls Tryz.prog 194 #[.pointer (some ⟨it, 0, none⟩)] w fun e w' => DyTold V LL m kb R q it i w e w' := by
  obtain ⟨h1, h2, h3, A1, c1, pos2, ka, va, h4, h5, h6⟩ := hd
  have HU := Lib.hid (upd_calls2 hV rfl hl hb h4 (Kd.F_mono h5 (fun k hk => ⟨.inl hk, fun e => h3 (by rw [← e]; exact hk)⟩)) h6)
  have HO := Lib.hid (And.intro h1 (And.intro h2 (And.intro h3 (And.intro h5 hon))))
  clear hV hl hb h1 h2 h3 h4 h5 h6 hon
  go_enter Tryz.func194, Tryz.ntmps194
  go_wp2_with (go_at_call 202; (with_reducible refine HU.out.mono ?_); rintro e w1 ⟨rfl, k1, v1, hA, hF, hN⟩; obtain ⟨B1, d1, B2, d2, rfl, rfl, g1, g2⟩ := hA.out.kv; have r7 : w1.cell? ⟨it, 7, none⟩ = some (.slice B1 (keyL (kvS (LL.getD q [])) i).length d1) := (blk_cell hA.out.blk 7).trans rfl)
  go_ret
  obtain ⟨a, n, c, hs⟩ := hN.out HO.out.2.2.2.2
  simp only [Value.slice.injEq] at hs
  obtain ⟨rfl, -, -⟩ := hs
  exact ⟨a, d1, rfl, Lib.hid (Kd.F_mono g1 (fun k hk => hk.1.elim id (fun e => absurd e hk.2))), Lib.hid ⟨HO.out.1, HO.out.2.1, HO.out.2.2.1, A1, c1, i, _, _, hA.out, Kd.F_step HO.out.2.2.2.1 (fun k hk hl => hF.out.block k hl (fun e => HO.out.2.2.1 (by rw [← e]; exact hk))), hN.out⟩, hF⟩

set_option maxHeartbeats 1600000 in
theorem assert_calls (a : Addr) (n c : Nat) (w : World) :
    Calls Tryz.prog 220 #[.slice (some a) n c] w fun e w' => e = .returned (.slice (some a) n c) ∧ w = w' := by
  have sq1 := sl_eq
  go_enter Tryz.func220, Tryz.ntmps220
  go_wp2
  go_ret
  exact ⟨rfl, rfl⟩

set_option maxHeartbeats 1600000 in
theorem iterErr_calls (hd : DtN V LL m kb R w q it i) :
    Calls Tryz.prog 221 #[.pointer (some ⟨m, 0, none⟩), dtV it] w fun e w' => e = .returned (.bool false) ∧ w = w' := by
  obtain ⟨h1, h2, h3, A1, c1, pos2, ka, va, h4, h5, h6⟩ := hd
  have n2 : ∀ w, (nilAhead 418 161 (.pointer (some ⟨it, 0, none⟩)) "Error").run Tryz.prog w = .ok (some false) w := fun w => by kernel_rfl
  have m2 : ∀ w, (method 418 161 (.pointer (some ⟨it, 0, none⟩)) "Error").run Tryz.prog w = .ok (192, .pointer (some ⟨it, 0, none⟩)) w := fun w => by kernel_rfl
  have q2 : ∀ (args : Array Value) (w : World), (callFunc 192 args).run Tryz.prog w = .ok (.enter 192 args) w := fun args w => Go.MuLone.run_callFunc_enter Tryz.func192 (by kernel_rfl) rfl args w
  have HE := Lib.hid (baError h4.blk h4.is)
  clear h1 h2 h3 h4 h5 h6
  go_enter Tryz.func221, Tryz.ntmps221
  go_wp2_with ((with_reducible refine HE.out.mono ?_); rintro e w1 ⟨rfl, rfl⟩)
  go_ret
  exact ⟨rfl, rfl⟩
end

end Go.Proofs.YtdkkkikcigjlhaaGreatDoor.Md
