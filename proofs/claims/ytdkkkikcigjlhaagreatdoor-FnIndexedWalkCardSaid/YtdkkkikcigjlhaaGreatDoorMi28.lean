/- An iterator that goes through lists by an index: its state; its data's moves; no errors. An iterator that goes through lists by an index: Next. An iterator that goes through lists by an index: Next. -/
import Derived.Test.YtdkkkikcigjlhaaGreatDoorMi27
set_option linter.unusedVariables false
set_option linter.unusedSimpArgs false
namespace Go.Proofs.YtdkkkikcigjlhaaGreatDoor.Md
open Go.RowKit Go.Proofs.YtdkkkikcigjlhaaGreatDoor.Con Go.Proofs.YtdkkkikcigjlhaaGreatDoor.Run Go.Proofs.YtdkkkikcigjlhaaGreatDoorW.PrintWords Go.Proofs.YtdkkkikcigjlhaaGreatDoorW.PrintMore Go.Proofs.YtdkkkikcigjlhaaGreatDoor.Cmp Go.Sort Go.RwLone Go.Proofs.YtdkkkikcigjlhaaGreatDoor.PFnMemMap

structure IxS (V : Value) (LL : List (List S44)) (A : Option Addr) (n c ix b : Nat) (R : Nat → Prop) (w : World) (pos : Int) (dv : Value) : Prop where
  bx : w.heap[ix]? = some (ixO b dv)
  bb : w.heap[b]? = some (idO (lsI V A n c) pos)
  row : Kd.F kLL w R A n LL
  rng : -1 ≤ pos ∧ pos ≤ (n : Int)
  nb : b ≠ ix
  nr : ∀ k, R k → k ≠ ix ∧ k ≠ b ∧ k < w.heap.size

def DtS (V : Value) (LL : List (List S44)) (ix b : Nat) (R : Nat → Prop) (w : World) (q it : Nat) (i : Int) : Prop :=
  it ≠ ix ∧ it ≠ b ∧ ¬ R it ∧ ∃ A1 c1 pos2 ka va, ArAt V (LL.getD q []) A1 (LL.getD q []).length c1 it (fun k => R k ∨ k = it) w i i pos2 ka va

section
variable {V : Value} {f : List Int → List Int → Int} {LL : List (List S44)} {A : Option Addr} {n c ix b : Nat} {R : Nat → Prop} {w w1 : World} {pos p2 : Int} {dv dv2 : Value} {q it : Nat} {i : Int}

theorem IxS.ok (h : IxS V LL A n c ix b R w pos .nilIface) : DvOk w ix .nilIface := .inl rfl
theorem DtS.ok (h : DtS V LL ix b R w q it i) : DvOk w ix (dtV it) := by
  obtain ⟨h1, h2, h3, A1, c1, pos2, ka, va, h4⟩ := h
  exact .inr ⟨it, _, _, _, _, _, rfl, h1, h4.blk⟩

theorem IxS.fr (h : IxS V LL A n c ix b R w pos dv) {S : Nat → Prop} (hf : Fr w w1 S) (hs : ∀ k, R k → ¬ S k) (hx : w1.heap[ix]? = some (ixO b dv2)) (hb : w1.heap[b]? = some (idO (lsI V A n c) p2)) (hr : -1 ≤ p2 ∧ p2 ≤ (n : Int)) : IxS V LL A n c ix b R w1 p2 dv2 :=
  ⟨hx, hb, Kd.F_step h.row (fun k hk hl => hf.block k hl (hs k hk)), hr, h.nb, fun k hk => ⟨(h.nr k hk).1, (h.nr k hk).2.1, Nat.lt_of_lt_of_le (h.nr k hk).2.2 hf.size⟩⟩
theorem DtS.fr (h : DtS V LL ix b R w q it i) {S : Nat → Prop} (hf : Fr w w1 S) (hs : ∀ k, R k → ¬ S k) (hi : ¬ S it) : DtS V LL ix b R w1 q it i := by
  obtain ⟨h1, h2, h3, A1, c1, pos2, ka, va, h4⟩ := h
  refine ⟨h1, h2, h3, A1, c1, pos2, ka, va, h4.keep (fun k hk => hf.block k (h4.top k hk) ?_) hf.size⟩
  rcases hk with hk | rfl
  · exact hs k hk
  · exact hi

set_option maxHeartbeats 1600000 in
theorem indexErr_calls (h : IxS V LL A n c ix b R w pos dv) :
    Calls Tryz.prog 234 #[.pointer (some ⟨ix, 0, none⟩)] w fun e w' => e = .returned (.tuple #[]) ∧ w = w' := by
  have r2 : w.cell? ⟨ix, 2, none⟩ = some (.iface 203 (.pointer (some ⟨b, 0, none⟩))) := (blk_cell h.bx 2).trans rfl
  have n2 : ∀ w, (nilAhead 418 203 (.pointer (some ⟨b, 0, none⟩)) "Error").run Tryz.prog w = .ok (some false) w := fun w => by kernel_rfl
  have m2 : ∀ w, (method 418 203 (.pointer (some ⟨b, 0, none⟩)) "Error").run Tryz.prog w = .ok (192, .pointer (some ⟨b, 0, none⟩)) w := fun w => by kernel_rfl
  have q2 : ∀ (args : Array Value) (w : World), (callFunc 192 args).run Tryz.prog w = .ok (.enter 192 args) w := fun args w => Go.MuLone.run_callFunc_enter Tryz.func192 (by kernel_rfl) rfl args w
  have HE := Lib.hid (baError h.bb (id_is V A n c pos))
  clear h
  go_enter Tryz.func234, Tryz.ntmps234
  go_wp2_with ((with_reducible refine HE.out.mono ?_); rintro e w1 ⟨rfl, rfl⟩)
  go_end0
  exact ⟨rfl, rfl⟩

set_option maxHeartbeats 1600000 in
theorem dataErr_calls (h : IxS V LL A n c ix b R w pos (dtV it)) (hd : DtS V LL ix b R w q it i) :
    Calls Tryz.prog 237 #[.pointer (some ⟨ix, 0, none⟩)] w fun e w' => e = .returned (.bool false) ∧ w = w' := by
  obtain ⟨h1, h2, h3, A1, c1, pos2, ka, va, h4⟩ := hd
  have r4 : w.cell? ⟨ix, 4, none⟩ = some (dtV it) := (blk_cell h.bx 4).trans rfl
  have n2 : ∀ w, (nilAhead 418 161 (.pointer (some ⟨it, 0, none⟩)) "Error").run Tryz.prog w = .ok (some false) w := fun w => by kernel_rfl
  have m2 : ∀ w, (method 418 161 (.pointer (some ⟨it, 0, none⟩)) "Error").run Tryz.prog w = .ok (192, .pointer (some ⟨it, 0, none⟩)) w := fun w => by kernel_rfl
  have q2 : ∀ (args : Array Value) (w : World), (callFunc 192 args).run Tryz.prog w = .ok (.enter 192 args) w := fun args w => Go.MuLone.run_callFunc_enter Tryz.func192 (by kernel_rfl) rfl args w
  have HE := Lib.hid (baError h4.blk h4.is)
  clear h h1 h2 h3 h4
  go_enter Tryz.func237, Tryz.ntmps237
  go_wp2_with ((with_reducible refine HE.out.mono ?_); rintro e w1 ⟨rfl, rfl⟩)
  go_ret
  exact ⟨rfl, rfl⟩

def DmTold (V : Value) (LL : List (List S44)) (ix b : Nat) (R : Nat → Prop) (q it : Nat) (bb : Bool) (j : Int) (w : World) (e : Ending) (w' : World) : Prop :=
  e = .returned (.bool bb) ∧ Hid (DtS V LL ix b R w' q it j) ∧ Hid (Fr w w' (fun k => k = it))

theorem dt_told {V : Value} {LL : List (List S44)} {A1 : Option Addr} {c1 : Nat} {pos2 : Int} {ka va : Value} {K : Nat} {args : Array Value} {bb b2 : Bool} {p j : Int} (h1 : it ≠ ix) (h2 : it ≠ b) (h3 : ¬ R it) (h4 : ArAt V (LL.getD q []) A1 (LL.getD q []).length c1 it (fun k => R k ∨ k = it) w i i pos2 ka va)
    (hp : p = j) (hb : bb = b2) (hr : -1 ≤ p ∧ p ≤ ((LL.getD q []).length : Int)) (h0 : (LL.getD q []).length = 0 → p = -1 ∨ p = 0)
    (hc : Calls Tryz.prog K args w fun e w' => BaTold w it 167 (arCells (arI V A1 (LL.getD q []).length c1) i pos2 ka va) bb p e w') :
    Calls Tryz.prog K args w fun e w' => DmTold V LL ix b R q it b2 j w e w' := by
  subst hp hb
  refine hc.mono ?_
  rintro e w' ⟨rfl, hf, hblk⟩
  exact ⟨rfl, Lib.hid ⟨h1, h2, h3, A1, c1, pos2, ka, va, h4.fr hf.out hblk.out (h4.kv.step (fun k ho hk => hf.out.block k hk ho.2)) hr ⟨fun _ => rfl, h0⟩⟩, hf⟩

theorem dtNext (hV : Cmpr V f) (hl : (LL.getD q []).length ≤ 4294967296) (hb : ∀ x ∈ LL.getD q [], Byt x.f0) (hd : DtS V LL ix b R w q it i) :
    Calls Tryz.prog 196 #[.pointer (some ⟨it, 0, none⟩)] w fun e w' => DmTold V LL ix b R q it (decide (i + 1 < ((LL.getD q []).length : Int))) (if i + 1 < ((LL.getD q []).length : Int) then i + 1 else ((LL.getD q []).length : Int)) w e w' := by
  obtain ⟨h1, h2, h3, A1, c1, pos2, ka, va, h4⟩ := hd
  have hr := h4.rng
  refine dt_told h1 h2 h3 h4 rfl rfl ?_ ?_ (baNext (arr_barr hV rfl hl hb (fun _ => True)) h4.blk h4.is h4.rng)
  · split <;> omega
  · intro h0; rw [h0] at hr ⊢; split <;> omega
theorem dtPrev (hl : (LL.getD q []).length ≤ 4294967296) (hd : DtS V LL ix b R w q it i) (h0 : (LL.getD q []).length ≠ 0) :
    Calls Tryz.prog 197 #[.pointer (some ⟨it, 0, none⟩)] w fun e w' => DmTold V LL ix b R q it (decide (0 ≤ i - 1)) (if 0 ≤ i - 1 then i - 1 else -1) w e w' := by
  obtain ⟨h1, h2, h3, A1, c1, pos2, ka, va, h4⟩ := hd
  have hr := h4.rng
  refine dt_told h1 h2 h3 h4 rfl rfl ?_ (fun q => absurd q h0) (baPrev h4.blk h4.is ⟨hr.1, by omega⟩)
  split <;> omega
theorem dtLast (hV : Cmpr V f) (hl : (LL.getD q []).length ≤ 4294967296) (hb : ∀ x ∈ LL.getD q [], Byt x.f0) (hd : DtS V LL ix b R w q it i) :
    Calls Tryz.prog 195 #[.pointer (some ⟨it, 0, none⟩)] w fun e w' => DmTold V LL ix b R q it (decide (0 < (LL.getD q []).length)) (if (LL.getD q []).length = 0 then 0 else ((LL.getD q []).length : Int) - 1) w e w' := by
  obtain ⟨h1, h2, h3, A1, c1, pos2, ka, va, h4⟩ := hd
  refine dt_told h1 h2 h3 h4 rfl rfl ?_ ?_ (baLast (arr_barr hV rfl hl hb (fun _ => True)) h4.blk h4.is)
  · split <;> omega
  · intro h0; rw [if_pos h0]; exact .inr rfl
theorem dtSeek (hV : Cmpr V f) (hl : (LL.getD q []).length ≤ 4294967296) (hb : ∀ x ∈ LL.getD q [], Byt x.f0) (hd : DtS V LL ix b R w q it i) {B : Option Addr} {d : Nat} {key : List Int} (hA : Kd.C (Kd.int .u8) w B key.length key) (hk : Byt key) (h0 : (LL.getD q []).length ≠ 0) :
    Calls Tryz.prog 199 #[.pointer (some ⟨it, 0, none⟩), .slice B key.length d] w fun e w' => DmTold V LL ix b R q it (decide (findL f key (kvS (LL.getD q [])) < (LL.getD q []).length)) (findL f key (kvS (LL.getD q [])) : Int) w e w' := by
  obtain ⟨h1, h2, h3, A1, c1, pos2, ka, va, h4⟩ := hd
  have hfl := findL_le f key (kvS (LL.getD q []))
  rw [kvS_len] at hfl
  exact dt_told h1 h2 h3 h4 (by rw [if_neg h0]) rfl (by rw [if_neg h0]; omega) (fun q => absurd q h0) (baSeek (arr_barr hV rfl hl hb (fun k => (R k ∨ k = it) ∧ k ≠ it)) h4.blk h4.is h4.row hA hk)
end

end Go.Proofs.YtdkkkikcigjlhaaGreatDoor.Md

namespace Go.Proofs.YtdkkkikcigjlhaaGreatDoor.Md
open Go.RowKit Go.Proofs.YtdkkkikcigjlhaaGreatDoor.Con Go.Proofs.YtdkkkikcigjlhaaGreatDoor.Run Go.Proofs.YtdkkkikcigjlhaaGreatDoorW.PrintWords Go.Proofs.YtdkkkikcigjlhaaGreatDoorW.PrintMore Go.Proofs.YtdkkkikcigjlhaaGreatDoor.Cmp Go.Sort Go.RwLone Go.Proofs.YtdkkkikcigjlhaaGreatDoor.PFnMemMap

theorem add_block (a : Addr) (k : Nat) : (a.add k).block = a.block := by
  unfold Addr.add
  first | rfl | (split <;> rfl)

def DvFar (ix b : Nat) (R : Nat → Prop) (dv : Value) : Prop := ∀ k, DvB dv k → k ≠ ix ∧ k ≠ b ∧ ¬ R k

section
variable {V : Value} {f : List Int → List Int → Int} {LL : List (List S44)} {A : Option Addr} {n c ix b : Nat} {R : Nat → Prop} {w w1 : World} {pos p2 : Int} {dv dv2 : Value} {q it : Nat} {i : Int}

theorem DvFar.nil : DvFar ix b R .nilIface := fun k hk => hk.nil.elim
theorem DtS.far (h : DtS V LL ix b R w q it i) : DvFar ix b R (dtV it) := fun k hk => by rw [hk.it]; exact ⟨h.1, h.2.1, h.2.2.1⟩

def SsTold (V : Value) (LL : List (List S44)) (A : Option Addr) (n c ix b : Nat) (R : Nat → Prop) (q : Nat) (dv : Value) (w : World) (e : Ending) (w' : World) : Prop :=
  e = .returned (.tuple #[]) ∧ ∃ it, Hid (w.heap.size ≤ it) ∧ Hid (IxS V LL A n c ix b R w' (q : Int) (dtV it)) ∧ Hid (DtS V LL ix b R w' q it (-1)) ∧ Hid (Fr w w' (fun k => k = ix ∨ DvB dv k))

theorem set_state (hV : Cmpr V f) (hn : LL.length = n) (hl : n ≤ 4294967296) (hb : ∀ l ∈ LL, l.length ≤ 4294967296 ∧ ∀ x ∈ l, Byt x.f0) (h : IxS V LL A n c ix b R w (q : Int) dv) (hq : q < n) (hd : DvOk w ix dv) (hf : DvFar ix b R dv) :
    Calls Tryz.prog 236 #[.pointer (some ⟨ix, 0, none⟩)] w fun e w' => SsTold V LL A n c ix b R q dv w e w' := by
  obtain ⟨ad, cs', hA, -, hK, hcell, hok⟩ := Kd.F_get h.row ([] : List S44) (q : Int) (Int.natCast_nonneg _) (by omega)
  have hR : R ad.block := hok (by decide)
  obtain ⟨ad2, A1, c1, hA2, r0, hl1, hF1⟩ := LL_at h.row hq rfl
  obtain rfl : ad = ad2 := Option.some.inj (hA.symm.trans hA2)
  subst hA
  refine (set_calls hV hn hl hb hq r0 ⟨by rw [add_block]; exact (h.nr _ hR).1, fun k => by rw [add_block] at k; exact (hf _ k).2.2 hR⟩ h.bb ⟨h.nb, fun k => (hf _ k).2.1 rfl⟩ h.bx hd).mono ?_
  rintro e w' ⟨rfl, it, hs, hx, hit, hfr⟩
  have hRS : ∀ k, R k → ¬ (k = ix ∨ DvB dv k) := fun k hk q2 => q2.elim (h.nr k hk).1 (fun q3 => (hf k q3).2.2 hk)
  have hbb : w'.heap[b]? = some (idO (lsI V (some ad) n c) (q : Int)) := (hfr.out.block b (blk_lt h.bb) (fun q2 => q2.elim h.nb (fun q3 => (hf b q3).2.1 rfl))).trans h.bb
  have hlx := blk_lt h.bx
  have hlb := blk_lt h.bb
  refine ⟨rfl, it, Lib.hid hs.out.1, Lib.hid (h.fr hfr.out hRS hx.out hbb h.rng), Lib.hid ⟨fun e => by have := hs.out.1; omega, fun e => by have := hs.out.1; omega, fun hk => by have := (h.nr it hk).2.2; have := hs.out.1; omega, A1, c1, -1, .slice none 0 0, .slice none 0 0, ?_⟩, hfr⟩
  have hfar : ∀ k, R k → k ≠ it := fun k hk e => by have := (h.nr k hk).2.2; have := hs.out.1; omega
  refine ⟨hit.out, Kd.F_mono (Kd.F_step hF1 (fun k hk hl => hfr.out.block k hl (hRS k hk))) (fun k hk => ⟨.inl hk, hfar k hk⟩), ArKv.nil _ _ (by unfold onL; rfl), ⟨by omega, by omega⟩, ⟨fun _ => rfl, fun _ => .inl rfl⟩, .inr rfl, fun k hk => ?_⟩
  rcases hk with hk | rfl
  · exact Nat.lt_of_lt_of_le (h.nr k hk).2.2 hfr.out.size
  · exact hs.out.2

theorem clear_state (h : IxS V LL A n c ix b R w pos dv) (hd : DvOk w ix dv) (hf : DvFar ix b R dv) :
    Calls Tryz.prog 235 #[.pointer (some ⟨ix, 0, none⟩)] w fun e w' => e = .returned (.tuple #[]) ∧ Hid (IxS V LL A n c ix b R w' pos .nilIface) ∧ Hid (Fr w w' (fun k => k = ix ∨ DvB dv k)) := by
  refine (clear_calls h.bx hd).mono ?_
  rintro e w' ⟨rfl, hfr, hx⟩
  have hRS : ∀ k, R k → ¬ (k = ix ∨ DvB dv k) := fun k hk q2 => q2.elim (h.nr k hk).1 (fun q3 => (hf k q3).2.2 hk)
  have hbb : w'.heap[b]? = some (idO (lsI V A n c) pos) := (hfr.out.block b (blk_lt h.bb) (fun q2 => q2.elim h.nb (fun q3 => (hf b q3).2.1 rfl))).trans h.bb
  exact ⟨rfl, Lib.hid (h.fr hfr.out hRS hx.out hbb h.rng), hfr⟩

def ImTold (V : Value) (LL : List (List S44)) (A : Option Addr) (n c ix b : Nat) (R : Nat → Prop) (dv : Value) (bb : Bool) (p : Int) (w : World) (e : Ending) (w' : World) : Prop :=
  e = .returned (.bool bb) ∧ Hid (IxS V LL A n c ix b R w' p dv) ∧ Hid (Fr w w' (fun k => k = b))

theorem im_told {K : Nat} {args : Array Value} {bb b2 : Bool} {p j : Int} (h : IxS V LL A n c ix b R w pos dv) (hp : p = j) (hb : bb = b2) (hr : -1 ≤ p ∧ p ≤ (n : Int))
    (hc : Calls Tryz.prog K args w fun e w' => BaTold w b 205 (idCells (lsI V A n c) pos) bb p e w') :
    Calls Tryz.prog K args w fun e w' => ImTold V LL A n c ix b R dv b2 j w e w' := by
  subst hp hb
  refine hc.mono ?_
  rintro e w' ⟨rfl, hf, hblk⟩
  exact ⟨rfl, Lib.hid (h.fr hf.out (fun k hk => (h.nr k hk).2.1) ((hf.out.block ix (blk_lt h.bx) (fun e => h.nb e.symm)).trans h.bx) hblk.out hr), hf⟩

theorem imNext (hV : Cmpr V f) (hn : LL.length = n) (hl : n ≤ 4294967296) (hb : ∀ l ∈ LL, l.length ≤ 4294967296 ∧ ∀ x ∈ l, Byt x.f0) (h : IxS V LL A n c ix b R w pos dv) :
    Calls Tryz.prog 196 #[.pointer (some ⟨b, 0, none⟩)] w fun e w' => ImTold V LL A n c ix b R dv (decide (pos + 1 < (n : Int))) (if pos + 1 < (n : Int) then pos + 1 else (n : Int)) w e w' :=
  im_told h rfl rfl (by have := h.rng; split <;> omega) (baNext (lists_barr hV hn hl hb (fun _ => True)) h.bb (id_is V A n c pos) h.rng)
theorem imPrev (hl : n ≤ 4294967296) (h : IxS V LL A n c ix b R w pos dv) :
    Calls Tryz.prog 197 #[.pointer (some ⟨b, 0, none⟩)] w fun e w' => ImTold V LL A n c ix b R dv (decide (0 ≤ pos - 1)) (if 0 ≤ pos - 1 then pos - 1 else -1) w e w' :=
  im_told h rfl rfl (by have := h.rng; split <;> omega) (baPrev h.bb (id_is V A n c pos) ⟨h.rng.1, by have := h.rng; omega⟩)
theorem imFirst (hV : Cmpr V f) (hn : LL.length = n) (hl : n ≤ 4294967296) (hb : ∀ l ∈ LL, l.length ≤ 4294967296 ∧ ∀ x ∈ l, Byt x.f0) (h : IxS V LL A n c ix b R w pos dv) :
    Calls Tryz.prog 193 #[.pointer (some ⟨b, 0, none⟩)] w fun e w' => ImTold V LL A n c ix b R dv (decide (0 < n)) (if n = 0 then -1 else 0) w e w' :=
  im_told h rfl rfl (by split <;> omega) (baFirst (lists_barr hV hn hl hb (fun _ => True)) h.bb (id_is V A n c pos))
theorem imLast (hV : Cmpr V f) (hn : LL.length = n) (hl : n ≤ 4294967296) (hb : ∀ l ∈ LL, l.length ≤ 4294967296 ∧ ∀ x ∈ l, Byt x.f0) (h : IxS V LL A n c ix b R w pos dv) :
    Calls Tryz.prog 195 #[.pointer (some ⟨b, 0, none⟩)] w fun e w' => ImTold V LL A n c ix b R dv (decide (0 < n)) (if n = 0 then 0 else (n : Int) - 1) w e w' :=
  im_told h rfl rfl (by split <;> omega) (baLast (lists_barr hV hn hl hb (fun _ => True)) h.bb (id_is V A n c pos))
theorem imSeek (hV : Cmpr V f) (hn : LL.length = n) (hl : n ≤ 4294967296) (hb : ∀ l ∈ LL, l.length ≤ 4294967296 ∧ ∀ x ∈ l, Byt x.f0) (h : IxS V LL A n c ix b R w pos dv) {B : Option Addr} {d : Nat} {key : List Int} (hA : Kd.C (Kd.int .u8) w B key.length key) (hk : Byt key) :
    Calls Tryz.prog 199 #[.pointer (some ⟨b, 0, none⟩), .slice B key.length d] w fun e w' => ImTold V LL A n c ix b R dv (decide (findLL f key LL < n)) (findLL f key LL : Int) w e w' := by
  have hle := findLL_le f key LL
  rw [hn] at hle
  exact im_told h (by split <;> omega) rfl (by split <;> omega) (baSeek (lists_barr hV hn hl hb R) h.bb (id_is V A n c pos) h.row hA hk)

def PlAt (V : Value) (LL : List (List S44)) (A : Option Addr) (n c ix b : Nat) (R : Nat → Prop) (w : World) (t : Int) (dv : Value) : Prop :=
  ∃ pos, IxS V LL A n c ix b R w pos dv ∧
    ((∃ q i it : Nat, pos = (q : Int) ∧ q < n ∧ i < (LL.getD q []).length ∧ dv = dtV it ∧ DtS V LL ix b R w q it (i : Int) ∧ t = ((offL LL q + i : Nat) : Int)) ∨
     (dv = .nilIface ∧ (pos = -1 ∨ pos = (n : Int)) ∧ (0 < LL.flatten.length → (pos = -1 → t = -1) ∧ (pos = (n : Int) → t = (LL.flatten.length : Int))) ∧ (LL.flatten.length = 0 → t = -1 ∨ t = 0)))

def MvTold (V : Value) (LL : List (List S44)) (A : Option Addr) (n c ix b : Nat) (R : Nat → Prop) (dv : Value) (t : Int) (w : World) (e : Ending) (w' : World) : Prop :=
  ∃ bb dv2, e = .returned (.bool bb) ∧ Hid (bb = onL (kvS LL.flatten) t) ∧ Hid (PlAt V LL A n c ix b R w' t dv2) ∧ Hid (Fr w w' (fun k => k = ix ∨ k = b ∨ DvB dv k)) ∧ Hid (∀ k, DvB dv2 k → DvB dv k ∨ w.heap.size ≤ k)
end

end Go.Proofs.YtdkkkikcigjlhaaGreatDoor.Md

namespace Go.Proofs.YtdkkkikcigjlhaaGreatDoor.Md
open Go.RowKit Go.Proofs.YtdkkkikcigjlhaaGreatDoor.Con Go.Proofs.YtdkkkikcigjlhaaGreatDoor.Run Go.Proofs.YtdkkkikcigjlhaaGreatDoorW.PrintWords Go.Proofs.YtdkkkikcigjlhaaGreatDoorW.PrintMore Go.Proofs.YtdkkkikcigjlhaaGreatDoor.Cmp Go.Sort Go.RwLone Go.Proofs.YtdkkkikcigjlhaaGreatDoor.PFnMemMap

section
variable {V : Value} {f : List Int → List Int → Int} {LL : List (List S44)} {A : Option Addr} {n c ix b : Nat} {R : Nat → Prop} {w w1 : World} {pos p2 : Int} {dv dv2 : Value} {q it : Nat} {i : Int}

def NxAt (V : Value) (LL : List (List S44)) (n ix b : Nat) (R : Nat → Prop) (w : World) (pos : Int) (dv : Value) (t : Nat) : Prop :=
  (dv = .nilIface ∧ t = offL LL (pos + 1).toNat) ∨ ∃ (q it : Nat) (i : Int), pos = (q : Int) ∧ q < n ∧ dv = dtV it ∧ DtS V LL ix b R w q it i ∧ (i < ((LL.getD q []).length : Int)) ∧ (t : Int) = (offL LL q : Int) + (i + 1)

theorem fr_two {S : Nat → Prop} (h : Fr w w1 S) {w2 : World} {S2 : Nat → Prop} (g : Fr w1 w2 S2) (hs : ∀ k, S2 k → S k ∨ w.heap.size ≤ k) : Fr w w2 S := h.then_ g hs

theorem nx_new {t : Nat} (hq : q < n) (hd : DtS V LL ix b R w q it (-1)) (ht : t = offL LL q) : NxAt V LL n ix b R w (q : Int) (dtV it) t := .inr ⟨q, it, -1, rfl, hq, rfl, hd, by omega, by omega⟩
theorem pl_end (hn : LL.length = n) (h : IxS V LL A n c ix b R w (n : Int) .nilIface) : PlAt V LL A n c ix b R w (LL.flatten.length : Int) .nilIface :=
  ⟨_, h, .inr ⟨rfl, .inr rfl, fun _ => ⟨fun e => by omega, fun _ => rfl⟩, fun e => .inr (by omega)⟩⟩
theorem on_end (LL : List (List S44)) : onL (kvS LL.flatten) (LL.flatten.length : Int) = false := by
  unfold onL
  rw [kvS_len, decide_eq_false (p := (LL.flatten.length : Int) < _) (by omega), Bool.and_false]

set_option maxHeartbeats 6400000 in
set_option maxRecDepth 100000 in
theorem ixNext_calls (hV : Cmpr V f) (hn : LL.length = n) (hl : n ≤ 4294967296) (hb : ∀ l ∈ LL, l.length ≤ 4294967296 ∧ ∀ x ∈ l, Byt x.f0) : ∀ (m : Nat) (w : World) (pos : Int) (dv : Value) (t : Nat), (n : Int) - pos < m → IxS V LL A n c ix b R w pos dv → NxAt V LL n ix b R w pos dv t →
    Calls Tryz.prog 228 #[.pointer (some ⟨ix, 0, none⟩)] w fun e w' => MvTold V LL A n c ix b R dv (t : Int) w e w' := by
  intro m
  induction m with
  | zero =>
    intro w pos dv t hm h hx
    have := h.rng
    omega
  | succ m ih =>
    intro w pos dv t hm h hx
    have r4 : w.cell? ⟨ix, 4, none⟩ = some dv := (blk_cell h.bx 4).trans rfl
    have r2 : w.cell? ⟨ix, 2, none⟩ = some (.iface 203 (.pointer (some ⟨b, 0, none⟩))) := (blk_cell h.bx 2).trans rfl
    have r5 : w.cell? ⟨ix, 5, none⟩ = some .nilIface := (blk_cell h.bx 5).trans rfl
    have r1 : w.cell? ⟨ix, 1, none⟩ = some (.bool false) := (blk_cell h.bx 1).trans rfl
    have n2 : ∀ w, (nilAhead 418 203 (.pointer (some ⟨b, 0, none⟩)) "Next").run Tryz.prog w = .ok (some false) w := fun w => by kernel_rfl
    have m2 : ∀ w, (method 418 203 (.pointer (some ⟨b, 0, none⟩)) "Next").run Tryz.prog w = .ok (196, .pointer (some ⟨b, 0, none⟩)) w := fun w => by kernel_rfl
    have q2 : ∀ (args : Array Value) (w : World), (callFunc 196 args).run Tryz.prog w = .ok (.enter 196 args) w := fun args w => Go.MuLone.run_callFunc_enter Tryz.func196 (by kernel_rfl) rfl args w
    have HH := Lib.hid h
    have HM := Lib.hid hm
    have HIH := Lib.hid ih
    rcases hx with ⟨rfl, ht⟩ | ⟨q, it, i, rfl, hq, rfl, hd, hi, ht⟩
    · have HT := Lib.hid ht
      have HIM := Lib.hid (imNext hV hn hl hb h)
      by_cases hp : pos + 1 < (n : Int)
      · rw [decide_eq_true hp, if_pos hp] at HIM
        obtain ⟨q, hq⟩ : ∃ q : Nat, pos + 1 = (q : Int) := ⟨(pos + 1).toNat, by have := h.rng; omega⟩
        rw [hq] at HIM hp
        have HQ := Lib.hid (show q < n ∧ pos + 1 = (q : Int) ∧ t = offL LL q from ⟨by omega, hq, by rw [ht, hq, Int.toNat_natCast]⟩)
        have HSET := Lib.hid (show ∀ W, IxS V LL A n c ix b R W (q : Int) .nilIface → Calls Tryz.prog 236 #[.pointer (some ⟨ix, 0, none⟩)] W fun e w' => SsTold V LL A n c ix b R q .nilIface W e w' from fun W hW => set_state hV hn hl hb hW HQ.out.1 hW.ok DvFar.nil)
        clear h hm ih ht hp hq
        go_enter Tryz.func228, Tryz.ntmps228
        go_wp2_with (first
          | (go_at_call 174; (with_reducible refine (Released_calls r1).mono ?_); rintro e wx ⟨rfl, rfl⟩)
          | ((with_reducible refine HIM.out.mono ?_); rintro e w1 ⟨rfl, hs1, hf1⟩)
          | (go_at_call 236; (with_reducible refine (HSET.out _ hs1.out).mono ?_); rintro e w2 ⟨rfl, it, hi2, hs2, hd2, hf2⟩)
          | (go_at_call 228; (with_reducible refine (HIH.out _ _ _ t (by have := HM.out; have := HQ.out.2.1; omega) hs2.out (nx_new HQ.out.1 hd2.out HQ.out.2.2)).mono ?_); rintro e w3 ⟨bb, dv2, rfl, hb3, hp3, hf3, hg3⟩))
        go_ret
        refine ⟨bb, dv2, rfl, hb3, hp3, Lib.hid ?_, Lib.hid ?_⟩
        · refine (fr_two (fr_two (hf1.out.mono (fun k hk => .inr (.inl hk))) hf2.out ?_) hf3.out ?_)
          · rintro k (rfl | hk)
            · exact .inl (.inl rfl)
            · exact hk.nil.elim
          · rintro k (rfl | rfl | hk)
            · exact .inl (.inl rfl)
            · exact .inl (.inr (.inl rfl))
            · rw [hk.it]; exact .inr (Nat.le_trans hf1.out.size hi2.out)
        · intro k hk
          rcases hg3.out k hk with h1 | h1
          · rw [h1.it]; exact .inr (Nat.le_trans hf1.out.size hi2.out)
          · exact .inr (Nat.le_trans (Nat.le_trans hf1.out.size hf2.out.size) h1)
      · rw [decide_eq_false hp, if_neg hp] at HIM
        have HTE := Lib.hid (show t = LL.flatten.length by rw [ht]; exact off_top LL _ (by rw [hn]; omega))
        have HNN := Lib.hid hn
        clear h hm ih ht hp
        go_enter Tryz.func228, Tryz.ntmps228
        go_wp2_with (first
          | (go_at_call 174; (with_reducible refine (Released_calls r1).mono ?_); rintro e wx ⟨rfl, rfl⟩)
          | ((with_reducible refine HIM.out.mono ?_); rintro e w1 ⟨rfl, hs1, hf1⟩)
          | (go_at_call 234; (with_reducible refine (indexErr_calls hs1.out).mono ?_); rintro e w2 ⟨rfl, rfl⟩))
        go_ret
        refine ⟨false, .nilIface, rfl, Lib.hid ?_, Lib.hid ?_, Lib.hid (hf1.out.mono (fun k hk => .inr (.inl hk))), Lib.hid (fun k hk => hk.nil.elim)⟩
        · rw [HTE.out, on_end]
        · rw [HTE.out]; exact pl_end HNN.out hs1.out
    · have n3 : ∀ w, (nilAhead 418 161 (.pointer (some ⟨it, 0, none⟩)) "Next").run Tryz.prog w = .ok (some false) w := fun w => by kernel_rfl
      have m3 : ∀ w, (method 418 161 (.pointer (some ⟨it, 0, none⟩)) "Next").run Tryz.prog w = .ok (196, .pointer (some ⟨it, 0, none⟩)) w := fun w => by kernel_rfl
      have hmem : LL.getD q [] ∈ LL := by
        rw [List.getD_eq_getElem?_getD, List.getElem?_eq_getElem (by rw [hn]; exact hq)]
        exact List.getElem_mem _
      have HDN := Lib.hid (dtNext hV (hb _ hmem).1 (hb _ hmem).2 hd)
      have hlen := off_succ LL q (by rw [hn]; exact hq)
      have hir : -1 ≤ i := by obtain ⟨-, -, -, _, _, _, _, _, h4⟩ := hd; exact h4.rng.1
      have HD := Lib.hid hd
      have HFAR := Lib.hid hd.far
      have HST := Lib.hid (show ∀ W, Fr w W (fun k => k = it) → IxS V LL A n c ix b R W (q : Int) (dtV it) from fun W hf => h.fr hf (fun k hk e => hd.2.2.1 (by rw [← e]; exact hk)) ((hf.block ix (blk_lt h.bx) (fun e => hd.1 e.symm)).trans h.bx) ((hf.block b (blk_lt h.bb) (fun e => hd.2.1 e.symm)).trans h.bb) h.rng)
      by_cases h1 : i + 1 < ((LL.getD q []).length : Int)
      · rw [decide_eq_true h1, if_pos h1] at HDN
        obtain ⟨j, hj⟩ : ∃ j : Nat, i + 1 = (j : Int) := ⟨(i + 1).toNat, by omega⟩
        rw [hj] at HDN
        have HQ := Lib.hid (show q < n ∧ j < (LL.getD q []).length ∧ t = offL LL q + j from ⟨hq, by omega, by omega⟩)
        have HNN := Lib.hid hn
        clear h hm ih ht hd hi hmem hlen hir hq h1 hj
        go_enter Tryz.func228, Tryz.ntmps228
        go_wp2_with (first
          | (go_at_call 174; (with_reducible refine (Released_calls r1).mono ?_); rintro e wx ⟨rfl, rfl⟩)
          | ((with_reducible refine HDN.out.mono ?_); rintro e w1 ⟨rfl, hd1, hf1⟩; have HS1 := Lib.hid (HST.out _ hf1.out); have s4 : w1.cell? ⟨ix, 4, none⟩ = some (dtV it) := (blk_cell HS1.out.bx 4).trans rfl))
        go_ret
        have h2 := (flat_kv LL q j (by rw [HNN.out]; exact HQ.out.1) HQ.out.2.1).1
        refine ⟨true, dtV it, rfl, Lib.hid ?_, Lib.hid ⟨_, HS1.out, .inl ⟨q, j, it, rfl, HQ.out.1, HQ.out.2.1, rfl, hd1.out, by rw [HQ.out.2.2]⟩⟩, Lib.hid (hf1.out.mono (fun k hk => .inr (.inr (by rw [hk]; rfl)))), Lib.hid (fun k hk => .inl hk)⟩
        rw [HQ.out.2.2, h2]
      · rw [decide_eq_false h1, if_neg h1] at HDN
        have HCL := Lib.hid (show ∀ W, IxS V LL A n c ix b R W (q : Int) (dtV it) → DtS V LL ix b R W q it ((LL.getD q []).length : Int) → Calls Tryz.prog 235 #[.pointer (some ⟨ix, 0, none⟩)] W fun e w' => e = .returned (.tuple #[]) ∧ Hid (IxS V LL A n c ix b R w' (q : Int) .nilIface) ∧ Hid (Fr W w' (fun k => k = ix ∨ DvB (dtV it) k)) from fun W h1 h2 => clear_state h1 h2.ok h2.far)
        have HIM := Lib.hid (show ∀ W, IxS V LL A n c ix b R W (q : Int) .nilIface → Calls Tryz.prog 196 #[.pointer (some ⟨b, 0, none⟩)] W fun e w' => ImTold V LL A n c ix b R .nilIface (decide ((q : Int) + 1 < (n : Int))) (if (q : Int) + 1 < (n : Int) then (q : Int) + 1 else (n : Int)) W e w' from fun W hW => imNext hV hn hl hb hW)
        by_cases hp : (q : Int) + 1 < (n : Int)
        · rw [decide_eq_true hp, if_pos hp] at HIM
          have e1 : (q : Int) + 1 = ((q + 1 : Nat) : Int) := by omega
          rw [e1] at HIM
          have HQ := Lib.hid (show q + 1 < n ∧ t = offL LL (q + 1) from ⟨by omega, by omega⟩)
          have HSET := Lib.hid (show ∀ W, IxS V LL A n c ix b R W ((q + 1 : Nat) : Int) .nilIface → Calls Tryz.prog 236 #[.pointer (some ⟨ix, 0, none⟩)] W fun e w' => SsTold V LL A n c ix b R (q + 1) .nilIface W e w' from fun W hW => set_state hV hn hl hb hW HQ.out.1 hW.ok DvFar.nil)
          clear h hm ih ht hd hi hmem hlen hir hq h1 hp e1
          go_enter Tryz.func228, Tryz.ntmps228
          go_wp2_with (first
            | (go_at_call 174; (with_reducible refine (Released_calls r1).mono ?_); rintro e wx ⟨rfl, rfl⟩)
            | ((with_reducible refine HDN.out.mono ?_); rintro e w1 ⟨rfl, hd1, hf1⟩; have HS1 := Lib.hid (HST.out _ hf1.out))
            | (go_at_call 237; (with_reducible refine (dataErr_calls HS1.out hd1.out).mono ?_); rintro e wy ⟨rfl, rfl⟩)
            | (go_at_call 235; (with_reducible refine (HCL.out _ HS1.out hd1.out).mono ?_); rintro e w2 ⟨rfl, hs2, hf2⟩; have s2 : w2.cell? ⟨ix, 2, none⟩ = some (.iface 203 (.pointer (some ⟨b, 0, none⟩))) := (blk_cell hs2.out.bx 2).trans rfl)
            | ((with_reducible refine (HIM.out _ hs2.out).mono ?_); rintro e w3 ⟨rfl, hs3, hf3⟩)
            | (go_at_call 236; (with_reducible refine (HSET.out _ hs3.out).mono ?_); rintro e w4 ⟨rfl, i4, hi4, hs4, hd4, hf4⟩)
            | (go_at_call 228; (with_reducible refine (HIH.out _ _ _ t (by have := HM.out; omega) hs4.out (nx_new HQ.out.1 hd4.out HQ.out.2)).mono ?_); rintro e w5 ⟨bb, dv2, rfl, hb5, hp5, hf5, hg5⟩))
          go_ret
          have hz1 := hf1.out.size
          have hz2 := hf2.out.size
          have hz3 := hf3.out.size
          have hz4 := hf4.out.size
          have hi4' := hi4.out
          refine ⟨bb, dv2, rfl, hb5, hp5, Lib.hid ?_, Lib.hid ?_⟩
          · refine fr_two (fr_two (fr_two (fr_two (hf1.out.mono (fun k hk => .inr (.inr (by rw [hk]; rfl)))) hf2.out ?_) hf3.out (fun k hk => .inl (.inr (.inl hk)))) hf4.out ?_) hf5.out ?_
            · rintro k (rfl | hk)
              · exact .inl (.inl rfl)
              · exact .inl (.inr (.inr hk))
            · rintro k (rfl | hk)
              · exact .inl (.inl rfl)
              · exact hk.nil.elim
            · rintro k (rfl | rfl | hk)
              · exact .inl (.inl rfl)
              · exact .inl (.inr (.inl rfl))
              · rw [hk.it]; exact .inr (by omega)
          · intro k hk
            rcases hg5.out k hk with h1 | h1
            · rw [h1.it]; exact .inr (by omega)
            · exact .inr (by omega)
        · rw [decide_eq_false hp, if_neg hp] at HIM
          have HTE := Lib.hid (show t = LL.flatten.length by
            have := off_top LL (q + 1) (by rw [hn]; omega)
            omega)
          have HNN := Lib.hid hn
          clear h hm ih ht hd hi hmem hlen hir hq h1 hp
          go_enter Tryz.func228, Tryz.ntmps228
          go_wp2_with (first
            | (go_at_call 174; (with_reducible refine (Released_calls r1).mono ?_); rintro e wx ⟨rfl, rfl⟩)
            | ((with_reducible refine HDN.out.mono ?_); rintro e w1 ⟨rfl, hd1, hf1⟩; have HS1 := Lib.hid (HST.out _ hf1.out))
            | (go_at_call 237; (with_reducible refine (dataErr_calls HS1.out hd1.out).mono ?_); rintro e wy ⟨rfl, rfl⟩)
            | (go_at_call 235; (with_reducible refine (HCL.out _ HS1.out hd1.out).mono ?_); rintro e w2 ⟨rfl, hs2, hf2⟩; have s2 : w2.cell? ⟨ix, 2, none⟩ = some (.iface 203 (.pointer (some ⟨b, 0, none⟩))) := (blk_cell hs2.out.bx 2).trans rfl)
            | ((with_reducible refine (HIM.out _ hs2.out).mono ?_); rintro e w3 ⟨rfl, hs3, hf3⟩)
            | (go_at_call 234; (with_reducible refine (indexErr_calls hs3.out).mono ?_); rintro e wz ⟨rfl, rfl⟩))
          go_ret
          refine ⟨false, .nilIface, rfl, Lib.hid ?_, Lib.hid ?_, Lib.hid ?_, Lib.hid (fun k hk => hk.nil.elim)⟩
          · rw [HTE.out, on_end]
          · rw [HTE.out]; exact pl_end HNN.out hs3.out
          · refine fr_two (fr_two (hf1.out.mono (fun k hk => .inr (.inr (by rw [hk]; rfl)))) hf2.out ?_) hf3.out (fun k hk => .inl (.inr (.inl hk)))
            rintro k (rfl | hk)
            · exact .inl (.inl rfl)
            · exact .inl (.inr (.inr hk))
end

end Go.Proofs.YtdkkkikcigjlhaaGreatDoor.Md
