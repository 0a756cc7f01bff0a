/- The memory table: what a call keeps; a number of the row is written. The laws' own bounds: fewPairs. The laws' own bounds: fewPairs, walked. The reference's cursor: a put. The reference's cursor: a move. The memory table: Delete. -/
import Derived.Test.YtdkkkikcigjlhaaGreatDoorMm06
import Derived.Test.YtdkkkikcigjlhaaGreatDoorMm05
import Derived.BigRegion
set_option linter.unusedVariables false
set_option linter.unusedSimpArgs false
namespace Go.Proofs.YtdkkkikcigjlhaaGreatDoor.Md
open Go.RowKit Go.Proofs.YtdkkkikcigjlhaaGreatDoor.Con Go.Proofs.YtdkkkikcigjlhaaGreatDoor.Run Go.Proofs.YtdkkkikcigjlhaaGreatDoorW.PrintWords Go.Proofs.YtdkkkikcigjlhaaGreatDoorW.PrintMore Go.Proofs.YtdkkkikcigjlhaaGreatDoor.Cmp Go.Sort Go.RwLone

structure Fr (w w' : World) (S : Nat → Prop) : Prop where
  os : w'.os = w.os
  tape : w'.tape = w.tape
  output : w'.output = w.output
  size : w.heap.size ≤ w'.heap.size
  block : ∀ k, k < w.heap.size → ¬ S k → w'.heap[k]? = w.heap[k]?

section
variable {w w1 w2 : World} {S S2 : Nat → Prop}
theorem Fr.refl (w : World) (S : Nat → Prop) : Fr w w S := ⟨rfl, rfl, rfl, Nat.le_refl _, fun _ _ _ => rfl⟩
theorem Fr.of_below (h : Below w.heap.size w w1) (S : Nat → Prop) : Fr w w1 S := ⟨h.os, h.tape, h.output, h.size, fun k hk _ => h.block k hk⟩
theorem Fr.of_grown {row : Option Nat} (h : w.grownBy w1 row) (hr : ∀ k, row = some k → S k) : Fr w w1 S := ⟨h.os, h.tape, h.output, h.size, fun k hk hn => h.block k hk (fun e => hn (hr k e.symm))⟩
theorem Fr.then_ (h : Fr w w1 S) (g : Fr w1 w2 S2) (hs : ∀ k, S2 k → S k ∨ w.heap.size ≤ k) : Fr w w2 S :=
  ⟨g.os.trans h.os, g.tape.trans h.tape, g.output.trans h.output, Nat.le_trans h.size g.size, fun k hk hn => (g.block k (Nat.lt_of_lt_of_le hk h.size) (fun q => (hs k q).elim hn (fun q => by omega))).trans (h.block k hk hn)⟩
theorem Fr.mono (h : Fr w w1 S) (hs : ∀ k, S k → S2 k) : Fr w w1 S2 := ⟨h.os, h.tape, h.output, h.size, fun k hk hn => h.block k hk (fun q => hn (hs k q))⟩
theorem Fr.setCell (h : Fr w w1 S) {p : Addr} (hp : S p.block ∨ w.heap.size ≤ p.block) (u : Value) : Fr w (w1.setCell p u) S :=
  h.then_ (S2 := fun k => k = p.block) ⟨rfl, rfl, rfl, by simp, fun k hk hn => Below.heap_setCell _ _ _ k hn⟩ (fun k hk => by rw [hk]; exact hp)
theorem Fr.below {B : Nat} (h : Fr w w1 S) (hB : B ≤ w.heap.size) (hS : ∀ k, S k → B ≤ k) : Below B w w1 := ⟨h.os, h.tape, h.output, h.size, fun k hk => h.block k (by omega) (fun q => by have := hS k q; omega)⟩
theorem Fr.cell (h : Fr w w1 S) {a : Addr} {v : Value} (hc : w.cell? a = some v) (hn : ¬ S a.block) : w1.cell? a = some v := by
  have hb := h.block a.block (World.block_lt_of_cell? w a hc) hn
  unfold World.cell? at hc ⊢
  rw [hb]
  exact hc
theorem Fr.C (h : Fr w w1 S) {A : Option Addr} {n : Nat} {l : List Int} (hc : Kd.C (Kd.int .u8) w A n l) (hn : 0 < n → ∀ a, A = some a → ¬ S a.block) : Kd.C (Kd.int .u8) w1 A n l := by
  obtain ⟨h1, h2, h3⟩ := C_ints hc
  refine ints_C ⟨h1, h2, fun hp => ?_⟩
  obtain ⟨a, ha, hcc⟩ := h3 hp
  refine ⟨a, ha, fun j hj => h.cell (hcc j hj) ?_⟩
  rw [add_block]
  exact hn hp a ha
end

theorem Tab.setNd {W : World} {base p g c : Nat} {cs : Array Value} {vk : Value} {kv nd : List Int} (h : Tab W base p cs vk (.slice (some ⟨g, 0, none⟩) nd.length c) kv nd) (i : Nat) (v : Int) :
    Tab (W.setCell ⟨g, i, none⟩ (.int .i64 v)) base p cs vk (.slice (some ⟨g, 0, none⟩) nd.length c) kv (nd.set i v) := by
  have hne : p ≠ g := fun e => own_ne h.nd h.cell (by decide) (by rw [e]; rfl)
  have hk : some g ≠ vk.ownBlock := by
    rcases own_type_ne h.kv h.nd (by decide) with q | q
    · rw [q]; simp
    · exact fun e => q e.symm
  refine ⟨(Below.heap_setCell _ _ _ p hne).trans h.cell, own_setCell (p := ⟨g, i, none⟩) h.kv hk _, ?_, h.at_⟩
  rw [List.length_set]
  have := (own_store h.nd (i : Int) v).1
  rw [Int.toNat_natCast] at this
  exact this

theorem Tab.own {W : World} {base p c : Nat} {N : Option Addr} {cs : Array Value} {vk : Value} {kv nd : List Int} (h : Tab W base p cs vk (.slice N nd.length c) kv nd) (hl : 0 < nd.length) : ∃ g, N = some ⟨g, 0, none⟩ ∧ g ≠ p ∧ base ≤ g ∧ g < W.heap.size ∧ nd.length ≤ c := by
  rcases h.nd.2 with ⟨hv, h0⟩ | ⟨g, cap, cur, hv, hb, hh, h1, _⟩
  · have : nd.length = 0 := by first | exact h0.1 | exact h0
    omega
  · injection hv with e1 e2 e3
    refine ⟨g, e1, fun e => ?_, hb, blk_lt hh, by omega⟩
    have := own_ne h.nd h.cell (by decide)
    rw [e1, ← e] at this
    exact this rfl

theorem del_at {nd kv : List Int} {mh : Nat} {ns P R : List Node} {x : Node} (h : Skip nd kv mh ns) (e : ns = P ++ x :: R) {n : Nat} (hn : n < x.h) : G (delN P n nd) (prv n P + 4 + n) = (x.a : Int) := by
  have hxn : x ∈ ns := by rw [e]; simp
  have hx12 : x.h ≤ 12 := Nat.le_trans (h.ok x hxn).hm h.m12
  have ht := del_told h e n (by omega)
  rw [ht.keep _ (fun i hi q => by
    have := (h.inj (h.prv_slot e (i := n) (by omega)) (h.prv_slot e (i := i) (by omega)) q).2
    omega), h.links P (x :: R) e n (by omega), nxt, if_pos hn]

theorem del_next {nd kv : List Int} {mh : Nat} {ns P R : List Node} {x : Node} (h : Skip nd kv mh ns) (e : ns = P ++ x :: R) {n : Nat} (hn : n < x.h) : delN P (n + 1) nd = (delN P n nd).set (prv n P + 4 + n) (G (delN P n nd) (x.a + 4 + n)) := by
  simp only [delN, delStep]
  rw [del_at h e hn, Int.toNat_natCast]

theorem del_cells {nd kv : List Int} {mh : Nat} {ns P R : List Node} {x : Node} (h : Skip nd kv mh ns) (e : ns = P ++ x :: R) {n t : Nat} (hn : n ≤ x.h) (ht : t < 4) : G (delN P n nd) (x.a + t) = G nd (x.a + t) := by
  have hxn : x ∈ ns := by rw [e]; simp
  have hx12 : x.h ≤ 12 := Nat.le_trans (h.ok x hxn).hm h.m12
  exact (del_told h e n hn).keep _ fun i hi => Ne.symm (h.cell_ne hxn (h.prv_slot e (i := i) (by omega)) ht)

theorem Tab.numG {W : World} {base p g c : Nat} {cs : Array Value} {vk : Value} {kv nd : List Int} (h : Tab W base p cs vk (.slice (some ⟨g, 0, none⟩) nd.length c) kv nd) {i : Nat} (hi : i < nd.length) : W.cell? ⟨g, i, none⟩ = some (.int .i64 (G nd i)) ∧ W.frozen? ⟨g, i, none⟩ = false := by
  refine ⟨h.num hi, ?_⟩
  rcases h.nd.2 with ⟨hv, h0⟩ | ⟨g', cap, cur, hv, hb, hh, h1, _⟩
  · have : nd.length = 0 := by first | exact h0.1 | exact h0
    omega
  · injection hv with e1 e2 e3
    injection e1 with e1
    injection e1 with e1
    subst e1
    exact blk_frozen hh i

theorem link_sums {a i n : Nat} (h1 : a + 4 + i < n) (hn : n ≤ 1099511627776) :
    (a : Int) + 4 + (i : Int) < (n : Int) ∧ (0 : Int) ≤ (a : Int) + 4 + (i : Int) ∧ ((a : Int) + 4 + (i : Int)).toNat = a + 4 + i ∧ wrap64 ((a : Int) + 4) = (a : Int) + 4 ∧ wrap64 ((a : Int) + 4 + (i : Int)) = (a : Int) + 4 + (i : Int) ∧
    IntKind.i64.wrap ((a : Int) + 4) = (a : Int) + 4 ∧ IntKind.i64.wrap ((a : Int) + 4 + (i : Int)) = (a : Int) + 4 + (i : Int) :=
  ⟨by omega, by omega, by omega, wz (by omega) (by omega), wz (by omega) (by omega), iz (by omega) (by omega), iz (by omega) (by omega)⟩

end Go.Proofs.YtdkkkikcigjlhaaGreatDoor.Md

namespace Go.Proofs.YtdkkkikcigjlhaaGreatDoor.Md
open Go.RowKit Go.Proofs.YtdkkkikcigjlhaaGreatDoor.Con Go.Proofs.YtdkkkikcigjlhaaGreatDoor.Run Go.Proofs.YtdkkkikcigjlhaaGreatDoorW.PrintWords Go.Proofs.YtdkkkikcigjlhaaGreatDoorW.PrintMore Go.Proofs.YtdkkkikcigjlhaaGreatDoor.Cmp Go.Sort Go.RwLone Go.Proofs.YtdkkkikcigjlhaaGreatDoor.PFnMemMap

def sumK (l : List S44) : Nat := (l.map fun x => x.f0.length + x.f1.length).sum
def sumM (l : List S104) : Nat := (l.map fun x => x.f1.length).sum
def sumL (l : List (List S44)) : Nat := (l.map sumK).sum
def cntL (l : List (List S44)) : Nat := (l.map List.length).sum

theorem sp_take {α : Type} {l : List α} {i : Nat} (h : i < l.length) (z : α) : l.take (i + 1) = l.take i ++ [l.getD i z] := by
  rw [List.take_add_one, List.getElem?_eq_getElem h]
  simp [List.getD_eq_getElem?_getD, List.getElem?_eq_getElem h]

theorem add_two (T kn vn : Nat) (K V : Option Addr) (kc vc : Nat) : addW (wrap64 (T : Int)) [(K, kn, kc), (V, vn, vc)] = wrap64 ((T + (kn + vn) : Nat) : Int) := by
  simp only [addW]
  unfold wrap64
  omega
theorem add_one (T kn : Nat) (K : Option Addr) (kc : Nat) : addW (wrap64 (T : Int)) [(K, kn, kc)] = wrap64 ((T + kn : Nat) : Int) := by
  simp only [addW]
  unfold wrap64
  omega

def BndAt (W : World) (g T N : Nat) : Prop := W.heap[g]? = some (.cells #[.int .i64 (wrap64 (T : Int)), .int .i64 (N : Int)] 86 (0, 0))

theorem mv_at {w : World} {ok : Nat → Prop} {A : Option Addr} {n : Nat} {l : List S104} (h : Kd.F k104 w ok A n l) {j : Nat} (hj : j < n) {x : S104} (hx : l.getD j (⟨0, []⟩ : S104) = x) :
    ∃ ad A1 c1, A = some ad ∧ w.cell? (ad.add (j * 2)) = some (.int .i64 x.f0) ∧ w.cell? ⟨(ad.add (j * 2)).block, (ad.add (j * 2)).off + 1, none⟩ = some (.slice A1 x.f1.length c1) ∧ Kd.F (Kd.int .u8) w ok A1 x.f1.length x.f1 ∧ x.f1.length ≤ c1 := by
  obtain ⟨ad, cs', rfl, hcl, hK, hcell, hokb⟩ := Kd.F_get h (⟨0, []⟩ : S104) (j : Int) (Int.natCast_nonneg _) (by omega)
  obtain ⟨A1, c1, rfl, hl1, hF1⟩ := k104_openF hK
  have r0 := hcell 0 _ rfl
  have r1 := hcell 1 _ rfl
  rw [Int.toNat_natCast, hx] at r0 r1 hF1 hl1
  have e3 : j * k104.sz + 1 = j * 2 + 1 := rfl
  rw [e3, add_field ad (j * 2) 1 (by omega)] at r1
  exact ⟨ad, A1, c1, rfl, r0, r1, hF1, hl1⟩

def few (LL : List (List S44)) (ms : List S104) : Bool := decide (wrap64 ((sumL LL + sumM ms : Nat) : Int) ≤ 1048576 ∧ ((LL.length + cntL LL + ms.length : Nat) : Int) ≤ 4096)

theorem BndAt.two {W : World} {g T N : Nat} (h : BndAt W g T N) (hN : N ≤ 9223372036854775806) {K V : Option Addr} {kn kc vn vc : Nat} :
    Calls Tryz.prog 44 #[.pointer (some ⟨g, 0, none⟩), .slice (some ⟨W.heap.size, 0, none⟩) 2 2] (W.alloc (.cells #[.slice K kn kc, .slice V vn vc] 25)) fun e w' => e = .returned (.tuple #[]) ∧ Hid (BndAt w' g (T + (kn + vn)) (N + 1)) ∧ Hid (Fr W w' (fun k => k = g)) := by
  have hba := below_alloc (Below.refl W.heap.size W) (.cells #[.slice K kn kc, .slice V vn vc] 25)
  refine (add_calls (ls := [(K, kn, kc), (V, vn, vc)]) (m := 2) ((hba.block g (blk_lt h)).trans h) (blk_new W (.cells #[.slice K kn kc, .slice V vn vc] 25)) rfl (by omega) hN).mono ?_
  rintro e w' ⟨rfl, hk, hg⟩
  rw [add_two] at hk
  exact ⟨rfl, Lib.hid hk, Lib.hid ((Fr.of_below hba (fun k => k = g)).then_ (Fr.of_grown (S := fun k => k = g) hg (fun k e => by injection e with e; exact e.symm)) (fun k hk => .inl hk))⟩

theorem BndAt.one {W : World} {g T N : Nat} (h : BndAt W g T N) (hN : N ≤ 9223372036854775806) {K : Option Addr} {kn kc : Nat} :
    Calls Tryz.prog 44 #[.pointer (some ⟨g, 0, none⟩), .slice (some ⟨W.heap.size, 0, none⟩) 1 1] (W.alloc (.cells #[.slice K kn kc] 25)) fun e w' => e = .returned (.tuple #[]) ∧ Hid (BndAt w' g (T + kn) (N + 1)) ∧ Hid (Fr W w' (fun k => k = g)) := by
  have hba := below_alloc (Below.refl W.heap.size W) (.cells #[.slice K kn kc] 25)
  refine (add_calls (ls := [(K, kn, kc)]) (m := 1) ((hba.block g (blk_lt h)).trans h) (blk_new W (.cells #[.slice K kn kc] 25)) rfl (by omega) hN).mono ?_
  rintro e w' ⟨rfl, hk, hg⟩
  rw [add_one] at hk
  exact ⟨rfl, Lib.hid hk, Lib.hid ((Fr.of_below hba (fun k => k = g)).then_ (Fr.of_grown (S := fun k => k = g) hg (fun k e => by injection e with e; exact e.symm)) (fun k hk => .inl hk))⟩

theorem few_step {n i : Nat} (h : i < n) (hn : n ≤ 2147483647) : decide ((i : Int) < (n : Int)) = true ∧ wrap64 ((i : Int) + 1) = (i : Int) + 1 ∧ (i : Int) < (n : Int) := ⟨decide_eq_true (by omega), by unfold wrap64; omega, by omega⟩

theorem sp_below_fr {B : Nat} {a b c : World} {S : Nat → Prop} (h : Below B a b) (hB : B ≤ b.heap.size) (g : Fr b c S) (hS : ∀ k, S k → B ≤ k) : Below B a c :=
  ⟨g.os.trans h.os, g.tape.trans h.tape, g.output.trans h.output, Nat.le_trans h.size g.size, fun k hk => (g.block k (Nat.lt_of_lt_of_le hk hB) (fun q => by have := hS k q; omega)).trans (h.block k hk)⟩

theorem info_CP : (Tryz.prog.info? 36).map (fun i => (i.zero, i.size, i.bytes)) = some (some (.agg #[.slice none 0 0, .slice none 0 0]), 2, 48) := by kernel_rfl

theorem N_empty {α : Type} (d : Kd α) {W : World} {base g : Nat} {e : TypeId} {ok : Nat → Prop} (h : W.heap[g]? = some (.cells #[] e (0, 0))) (hb : base ≤ g) (hok : ok g) : Kd.N d e W base ok (.slice (some ⟨g, 0, none⟩) 0 0) [] := by
  refine ⟨fun k hk => ?_, [], rfl, ⟨fun k hk => hk.symm, [], ⟨by simp, .inr ⟨g, 0, #[], rfl, hb, h, Nat.le_refl _, by omega, by simp, by simp⟩⟩, ⟨by simp, fun j p hj => by simp at hj⟩⟩, fun j x c hj => by simp at hj⟩
  have e : (Value.slice (some (⟨g, 0, none⟩ : Addr)) 0 0).ownBlock = some g := rfl
  rw [e] at hk
  injection hk with hk
  exact hk ▸ hok

theorem cutF {w : World} {ok : Nat → Prop} {A : Option Addr} {n c : Nat} {l : List S36} (h : Kd.F k36 w ok A n l) (hn : l.length = n) (hc : n ≤ c) (j : Int) (p : Nat) (hj : j.toNat = p) (h0 : 0 ≤ j) (hp : p ≤ n) :
    ∃ A' c', (∀ W : World, (Instr.slice 31 (.slice A n c) (some (.int .i64 j)) none none).run Tryz.prog W = .ok (.slice A' (n - p) c') W) ∧ Kd.F k36 w ok A' (n - p) (l.drop p) := by
  obtain ⟨i0, hi, hzz⟩ := Option.map_eq_some_iff.1 info_CP
  simp only [Prod.mk.injEq] at hzz
  have hs := cut_from (P := Tryz.prog) 31 36 .i64 Tryz.underlying31 hi 2 hzz.2.1 A n c j h0 (by omega)
  rw [hj] at hs
  subst hn
  have hf := Kd.F_cut h hp hc
  rw [List.length_drop] at hf
  exact ⟨_, _, hs, hf⟩

theorem cutT {w : World} {ok : Nat → Prop} {A : Option Addr} {n c : Nat} {l : List S36} (h : Kd.F k36 w ok A n l) (hn : l.length = n) (hc : n ≤ c) (p : Nat) (hp : p ≤ n) :
    (∀ W : World, (Instr.slice 31 (.slice A n c) none (some (.int .i64 (p : Int))) none).run Tryz.prog W = .ok (.slice A p c) W) ∧ Kd.F k36 w ok A p (l.take p) := by
  obtain ⟨i0, hi, hzz⟩ := Option.map_eq_some_iff.1 info_CP
  have hs := cut_to (P := Tryz.prog) 31 36 .i64 Tryz.underlying31 hi A n c (p : Int) (Int.natCast_nonneg _) (by omega) hc
  rw [Int.toNat_natCast] at hs
  refine ⟨hs, ?_⟩
  subst hn
  have := Kd.F_take h hp
  rw [List.length_take, Nat.min_eq_left hp] at this
  exact this

theorem hit_at {f : List Int → List Int → Int} {key : List Int} {l : List S36} : hitL f key (kvC l) = (decide (findL f key (kvC l) < l.length) && decide ((l.getD (findL f key (kvC l)) (⟨[], []⟩ : S36)).f0 = key)) := by
  unfold hitL
  rw [kvC_get]
  by_cases h : findL f key (kvC l) < l.length
  · rw [List.getElem?_eq_getElem h, decide_eq_true h]
    simp [List.getD_eq_getElem?_getD, List.getElem?_eq_getElem h]
  · rw [List.getElem?_eq_none (by omega), decide_eq_false h]
    rfl

theorem cp_at {w : World} {ok : Nat → Prop} {A : Option Addr} {n : Nat} {l : List S36} (h : Kd.F k36 w ok A n l) {j : Nat} (hj : j < n) {x : S36} (hx : l.getD j (⟨[], []⟩ : S36) = x) :
    ∃ ad A1 c1 A2 c2, A = some ad ∧ w.cell? (ad.add (j * 2)) = some (.slice A1 x.f0.length c1) ∧ w.cell? ⟨(ad.add (j * 2)).block, (ad.add (j * 2)).off + 1, none⟩ = some (.slice A2 x.f1.length c2) ∧ Kd.F (Kd.int .u8) w ok A1 x.f0.length x.f0 ∧ Kd.F (Kd.int .u8) w ok A2 x.f1.length x.f1 ∧ x.f0.length ≤ c1 ∧ x.f1.length ≤ c2 := by
  obtain ⟨ad, cs', rfl, hcl, hK, hcell, hokb⟩ := Kd.F_get h (⟨[], []⟩ : S36) (j : Int) (Int.natCast_nonneg _) (by omega)
  obtain ⟨A1, c1, A2, c2, rfl, hl1, hF1, hl2, hF2⟩ := k36_openF hK
  have r0 := hcell 0 _ rfl
  have r1 := hcell 1 _ rfl
  rw [Int.toNat_natCast, hx] at r0 r1 hF1 hF2 hl1 hl2
  have e3 : j * k36.sz + 1 = j * 2 + 1 := rfl
  rw [e3, add_field ad (j * 2) 1 (by omega)] at r1
  exact ⟨ad, A1, c1, A2, c2, rfl, r0, r1, hF1, hF2, hl1, hl2⟩

def CpuTold (ok : Nat → Prop) (r : List S36) (w : World) (e : Ending) (w' : World) : Prop := ∃ v, e = .returned v ∧ Kd.N k36 36 w' w.heap.size (fun k => ok k ∨ w.heap.size ≤ k) v r ∧ Below w.heap.size w w'

theorem rows_ok {w W : World} {ok : Nat → Prop} {v : Value} {xs : List S36} (h : Kd.N k36 36 W w.heap.size (fun k => ok k ∨ w.heap.size ≤ k) v xs) : ∀ k, (ok k ∧ k < w.heap.size) → (ok k ∨ w.heap.size ≤ k) ∧ some k ≠ v.ownBlock :=
  fun k hk => ⟨.inl hk.1, fun e => by have := Kd.N_base h k e.symm; omega⟩

set_option maxHeartbeats 6400000 in
set_option maxRecDepth 100000 in
theorem cput_calls {w : World} {ok : Nat → Prop} {A B D : Option Addr} {n c cb cd : Nat} {l : List S36} {key val : List Int} (o : Int) (hA : Kd.F k36 w ok A n l) (hn : l.length = n) (hc : n ≤ c) (hok : ∀ k, ok k → k < w.heap.size) (hB : Kd.F (Kd.int .u8) w ok B key.length key) (hcb : key.length ≤ cb) (hD : Kd.F (Kd.int .u8) w ok D val.length val) (hcd : val.length ≤ cd)
    (hk : key.length ≤ 4294967296) (hx : ∀ x ∈ l, x.f0.length ≤ 4294967296) (hl : n ≤ 4294967296) :
    Calls Tryz.prog 31 #[.int .i64 o, .slice A n c, .slice B key.length cb, .slice D val.length cd] w fun e w' => CpuTold ok (putC (cmpO o) key val l) w e w' := by
  have HP := Lib.hid (And.intro hA (And.intro hn (And.intro hc (And.intro hok (And.intro hB (And.intro hcb (And.intro hD (And.intro hcd hl))))))))
  have HFI := Lib.hid (find_calls (c := c) (d := cb) o (Kd.F_now (show Kd.F k36 w ok A l.length l by rw [hn]; exact hA)) (by rw [hn]; exact hc) (Kd.F_now hB) hcb hk hx (by rw [hn]; exact hl))
  rw [hn] at HFI
  have hple := findL_le (cmpO o) key (kvC l)
  rw [kvC_len, hn] at hple
  have HHIT := Lib.hid (hit_at (f := cmpO o) (key := key) (l := l))
  have HRES : Hid (putC (cmpO o) key val l = (l.take (findL (cmpO o) key (kvC l)) ++ [⟨key, val⟩]) ++ (if hitL (cmpO o) key (kvC l) = true then l.drop (findL (cmpO o) key (kvC l) + 1) else l.drop (findL (cmpO o) key (kvC l)))) := Lib.hid rfl
  generalize findL (cmpO o) key (kvC l) = p at *
  generalize hitL (cmpO o) key (kvC l) = ht at *
  have HPL := Lib.hid hple
  have HL := Lib.hid hl
  have HLT := Lib.hid (show (l.take p).length = p by rw [List.length_take, hn, Nat.min_eq_left hple])
  obtain ⟨A1, c1, s1, hF1⟩ := cutF hA hn hc (p : Int) p (Int.toNat_natCast _) (Int.natCast_nonneg _) hple
  obtain ⟨s2, hF2⟩ := cutT hA hn hc p hple
  have HF1 := Lib.hid hF1
  have HF2 := Lib.hid hF2
  by_cases hlt : p < n
  · obtain ⟨x, hxx⟩ : ∃ x, l.getD p (⟨[], []⟩ : S36) = x := ⟨_, rfl⟩
    obtain ⟨ad, K, kc, V, vc, hAA, r0, r1, hKF, -, hkc, -⟩ := cp_at hA hlt hxx
    subst hAA
    obtain ⟨A3, c3, s3, hF3⟩ := cutF hA hn hc ((p : Int) + 1) (p + 1) (by omega) (by omega) hlt
    have HF3 := Lib.hid hF3
    have HK := Lib.hid (And.intro hKF hkc)
    have HR0 := Lib.hid r0
    have hht := HHIT.out
    rw [hn, decide_eq_true hlt, Bool.true_and, hxx] at hht
    have HHT := Lib.hid hht
    have z0 : decide ((p : Int) < (n : Int)) = true := decide_eq_true (by omega)
    have z1 : (p : Int) < (n : Int) := by omega
    have w0 : wrap64 ((p : Int) + 1) = (p : Int) + 1 := by unfold wrap64; omega
    clear hht
    clear hA hn hc hok hB hcb hD hcd hk hx hl hF1 hF2 hple hKF hkc hF3 r0 r1
    have hsame : ∀ w1, Below w.heap.size w w1 → Hid (Calls Tryz.prog 20 #[.slice K x.f0.length kc, .slice B key.length cb] w1 fun e w' => e = .returned (.bool ht) ∧ Below w1.heap.size w1 w') := fun w1 hb => Lib.hid (by
      rw [HHT.out]
      exact same_calls (Kd.F_now (Kd.F_below HK.out.1 hb)) HK.out.2 (Kd.F_now (Kd.F_below HP.out.2.2.2.2.1 hb)) HP.out.2.2.2.2.2.1)
    cases ht with
    | true =>
      go_enter Tryz.func31, Tryz.ntmps31
      go_wp2_with (first
      | (go_at_call 35; (with_reducible refine HFI.out.mono ?_); rintro e w1 ⟨rfl, hb1⟩; have HB1 := Lib.hid hb1; have r0 := pw_cell_below hb1 HR0.out)
      | (go_at_call 20; (with_reducible refine (hsame _ hb1).out.mono ?_); rintro e w2 ⟨rfl, hb2⟩; have hb12 := hb1.trans (hb2.mono hb1.size))
      | (at_builtin; go_loud (refine Kd.N_append_rows k36 w.heap.size rfl (.tmp 36) (.tmp 39) 31 36 (.agg #[.slice none 0 0, .slice none 0 0]) 48 rfl Tryz.underlying31 info_CP rfl (by decide) (by decide) _ _ _ _ _ _ (fun k => ok k ∨ w.heap.size ≤ k) (fun k => ok k ∧ k < w.heap.size) rfl rfl (N_empty k36 (blk_new _ _) hb12.size (.inr hb12.size)) (Kd.F_below (Kd.F_bound HF2.out) (below_alloc hb12 _)) (rows_ok (N_empty k36 (blk_new _ _) hb12.size (.inr hb12.size))) (fun k hk => .inr (by have := hb12.size; rw [World.size_alloc] at hk; omega)) (below_alloc hb12 _) (Nat.le_trans hb12.size (by rw [World.size_alloc]; omega)) (by have := HL.out; have := HPL.out; simp only [List.length_nil]; omega) ?_); intro v5 w5 hn5 hb5 hg5 hat5)
      | (at_builtin; go_loud (refine Kd.N_append k36 w.heap.size rfl (.tmp 41) (.tmp 45) 31 36 (.agg #[.slice none 0 0, .slice none 0 0]) 48 rfl Tryz.underlying31 info_CP rfl (by decide) (by decide) _ _ _ _ (fun k => ok k ∨ w.heap.size ≤ k) (fun k => ok k ∧ k < w.heap.size) rfl rfl (k36_mkF _ _ ⟨key, val⟩ HP.out.2.2.2.2.2.1 (Kd.F_below (Kd.F_bound HP.out.2.2.2.2.1) hb5) HP.out.2.2.2.2.2.2.2.1 (Kd.F_below (Kd.F_bound HP.out.2.2.2.2.2.2.1) hb5)) (rows_ok hn5) (fun k hk => .inr (by have := hb5.size; omega)) hn5 hb5 hb5.size (by have := HL.out; have := HPL.out; have := HLT.out; simp only [List.length_append, List.length_nil, List.nil_append] at *; omega) ?_); intro v6 w6 hn6 hb6 hg6 hat6)
      | (at_builtin; go_loud (refine Kd.N_append_rows k36 w.heap.size rfl (.tmp 47) (.tmp 48) 31 36 (.agg #[.slice none 0 0, .slice none 0 0]) 48 rfl Tryz.underlying31 info_CP rfl (by decide) (by decide) _ _ _ _ _ _ (fun k => ok k ∨ w.heap.size ≤ k) (fun k => ok k ∧ k < w.heap.size) rfl rfl hn6 (Kd.F_below (Kd.F_bound HF3.out) hb6) (rows_ok hn6) (fun k hk => .inr (by have := hb6.size; omega)) hb6 hb6.size (by have := HL.out; have := HPL.out; have := HLT.out; simp only [List.length_append, List.length_nil, List.nil_append, List.length_singleton] at *; omega) ?_); intro v7 w7 hn7 hb7 hg7 hat7))
      go_ret
      refine ⟨v7, rfl, ?_, hb7⟩
      rw [HRES.out]
      exact hn7
    | false =>
      go_enter Tryz.func31, Tryz.ntmps31
      go_wp2_with (first
      | (go_at_call 35; (with_reducible refine HFI.out.mono ?_); rintro e w1 ⟨rfl, hb1⟩; have HB1 := Lib.hid hb1; have r0 := pw_cell_below hb1 HR0.out)
      | (go_at_call 20; (with_reducible refine (hsame _ hb1).out.mono ?_); rintro e w2 ⟨rfl, hb2⟩; have hb12 := hb1.trans (hb2.mono hb1.size))
      | (at_builtin; go_loud (refine Kd.N_append_rows k36 w.heap.size rfl (.tmp 36) (.tmp 39) 31 36 (.agg #[.slice none 0 0, .slice none 0 0]) 48 rfl Tryz.underlying31 info_CP rfl (by decide) (by decide) _ _ _ _ _ _ (fun k => ok k ∨ w.heap.size ≤ k) (fun k => ok k ∧ k < w.heap.size) rfl rfl (N_empty k36 (blk_new _ _) hb12.size (.inr hb12.size)) (Kd.F_below (Kd.F_bound HF2.out) (below_alloc hb12 _)) (rows_ok (N_empty k36 (blk_new _ _) hb12.size (.inr hb12.size))) (fun k hk => .inr (by have := hb12.size; rw [World.size_alloc] at hk; omega)) (below_alloc hb12 _) (Nat.le_trans hb12.size (by rw [World.size_alloc]; omega)) (by have := HL.out; have := HPL.out; simp only [List.length_nil]; omega) ?_); intro v5 w5 hn5 hb5 hg5 hat5)
      | (at_builtin; go_loud (refine Kd.N_append k36 w.heap.size rfl (.tmp 41) (.tmp 45) 31 36 (.agg #[.slice none 0 0, .slice none 0 0]) 48 rfl Tryz.underlying31 info_CP rfl (by decide) (by decide) _ _ _ _ (fun k => ok k ∨ w.heap.size ≤ k) (fun k => ok k ∧ k < w.heap.size) rfl rfl (k36_mkF _ _ ⟨key, val⟩ HP.out.2.2.2.2.2.1 (Kd.F_below (Kd.F_bound HP.out.2.2.2.2.1) hb5) HP.out.2.2.2.2.2.2.2.1 (Kd.F_below (Kd.F_bound HP.out.2.2.2.2.2.2.1) hb5)) (rows_ok hn5) (fun k hk => .inr (by have := hb5.size; omega)) hn5 hb5 hb5.size (by have := HL.out; have := HPL.out; have := HLT.out; simp only [List.length_append, List.length_nil, List.nil_append] at *; omega) ?_); intro v6 w6 hn6 hb6 hg6 hat6)
      | (at_builtin; go_loud (refine Kd.N_append_rows k36 w.heap.size rfl (.tmp 47) (.tmp 48) 31 36 (.agg #[.slice none 0 0, .slice none 0 0]) 48 rfl Tryz.underlying31 info_CP rfl (by decide) (by decide) _ _ _ _ _ _ (fun k => ok k ∨ w.heap.size ≤ k) (fun k => ok k ∧ k < w.heap.size) rfl rfl hn6 (Kd.F_below (Kd.F_bound HF1.out) hb6) (rows_ok hn6) (fun k hk => .inr (by have := hb6.size; omega)) hb6 hb6.size (by have := HL.out; have := HPL.out; have := HLT.out; simp only [List.length_append, List.length_nil, List.nil_append, List.length_singleton] at *; omega) ?_); intro v7 w7 hn7 hb7 hg7 hat7))
      go_ret
      refine ⟨v7, rfl, ?_, hb7⟩
      rw [HRES.out]
      exact hn7
  · have hht := HHIT.out
    rw [hn, decide_eq_false hlt, Bool.false_and] at hht
    subst hht
    have z0 : decide ((p : Int) < (n : Int)) = false := decide_eq_false (by omega)
    clear hA hn hc hok hB hcb hD hcd hk hx hl hF1 hF2 hple
    go_enter Tryz.func31, Tryz.ntmps31
    go_wp2_with (first
      | (go_at_call 35; (with_reducible refine HFI.out.mono ?_); rintro e w1 ⟨rfl, hb1⟩; have HB1 := Lib.hid hb1)
      | (at_builtin; go_loud (refine Kd.N_append_rows k36 w.heap.size rfl (.tmp 36) (.tmp 39) 31 36 (.agg #[.slice none 0 0, .slice none 0 0]) 48 rfl Tryz.underlying31 info_CP rfl (by decide) (by decide) _ _ _ _ _ _ (fun k => ok k ∨ w.heap.size ≤ k) (fun k => ok k ∧ k < w.heap.size) rfl rfl (N_empty k36 (blk_new _ _) hb1.size (.inr hb1.size)) (Kd.F_below (Kd.F_bound HF2.out) (below_alloc hb1 _)) (rows_ok (N_empty k36 (blk_new _ _) hb1.size (.inr hb1.size))) (fun k hk => .inr (by have := hb1.size; rw [World.size_alloc] at hk; omega)) (below_alloc hb1 _) (Nat.le_trans hb1.size (by rw [World.size_alloc]; omega)) (by have := HL.out; have := HPL.out; simp only [List.length_nil]; omega) ?_); intro v5 w5 hn5 hb5 hg5 hat5)
      | (at_builtin; go_loud (refine Kd.N_append k36 w.heap.size rfl (.tmp 41) (.tmp 45) 31 36 (.agg #[.slice none 0 0, .slice none 0 0]) 48 rfl Tryz.underlying31 info_CP rfl (by decide) (by decide) _ _ _ _ (fun k => ok k ∨ w.heap.size ≤ k) (fun k => ok k ∧ k < w.heap.size) rfl rfl (k36_mkF _ _ ⟨key, val⟩ HP.out.2.2.2.2.2.1 (Kd.F_below (Kd.F_bound HP.out.2.2.2.2.1) hb5) HP.out.2.2.2.2.2.2.2.1 (Kd.F_below (Kd.F_bound HP.out.2.2.2.2.2.2.1) hb5)) (rows_ok hn5) (fun k hk => .inr (by have := hb5.size; omega)) hn5 hb5 hb5.size (by have := HL.out; have := HPL.out; have := HLT.out; simp only [List.length_append, List.length_nil, List.nil_append] at *; omega) ?_); intro v6 w6 hn6 hb6 hg6 hat6)
      | (at_builtin; go_loud (refine Kd.N_append_rows k36 w.heap.size rfl (.tmp 47) (.tmp 48) 31 36 (.agg #[.slice none 0 0, .slice none 0 0]) 48 rfl Tryz.underlying31 info_CP rfl (by decide) (by decide) _ _ _ _ _ _ (fun k => ok k ∨ w.heap.size ≤ k) (fun k => ok k ∧ k < w.heap.size) rfl rfl hn6 (Kd.F_below (Kd.F_bound HF1.out) hb6) (rows_ok hn6) (fun k hk => .inr (by have := hb6.size; omega)) hb6 hb6.size (by have := HL.out; have := HPL.out; have := HLT.out; simp only [List.length_append, List.length_nil, List.nil_append, List.length_singleton] at *; omega) ?_); intro v7 w7 hn7 hb7 hg7 hat7))
    go_ret
    refine ⟨v7, rfl, ?_, hb7⟩
    rw [HRES.out]
    exact hn7

end Go.Proofs.YtdkkkikcigjlhaaGreatDoor.Md

namespace Go.Proofs.YtdkkkikcigjlhaaGreatDoor.Md
open Go.RowKit Go.Proofs.YtdkkkikcigjlhaaGreatDoor.Con Go.Proofs.YtdkkkikcigjlhaaGreatDoor.Run Go.Proofs.YtdkkkikcigjlhaaGreatDoorW.PrintWords Go.Proofs.YtdkkkikcigjlhaaGreatDoorW.PrintMore Go.Proofs.YtdkkkikcigjlhaaGreatDoor.Cmp Go.Sort Go.Proofs.YtdkkkikcigjlhaaGreatDoor.PFnMemMap
attribute [local go_sem] max2_int min2_int max_two min_two

def curV (o : Int) (A : Option Addr) (n c : Nat) (i : Int) : Value := .agg #[.int .i64 o, .slice A n c, .int .i64 i]

def CmTold (o : Int) (A : Option Addr) (n c : Nat) (L : List KV) (w : World) (j : Int) (e : Ending) (w' : World) : Prop :=
  e = .returned (.tuple #[curV o A n c j, .bool (onL L j)]) ∧ Below w.heap.size w w'

theorem two_new (w : World) (x y : Array Value) (t : TypeId) : ((w.alloc (.cells x t)).alloc (.cells y t)).heap[w.heap.size]? = some (.cells x t (0, 0)) ∧ ((w.alloc (.cells x t)).alloc (.cells y t)).heap[w.heap.size + 1]? = some (.cells y t (0, 0)) ∧ Below w.heap.size w ((w.alloc (.cells x t)).alloc (.cells y t)) := by
  have h1 := below_alloc (Below.refl w.heap.size w) (.cells x t)
  have n1 := blk_new w (.cells x t)
  have n2 := blk_new (w.alloc (.cells x t)) (.cells y t)
  rw [World.size_alloc] at n2
  have h2 := below_alloc (Below.refl (w.alloc (.cells x t)).heap.size (w.alloc (.cells x t))) (.cells y t)
  exact ⟨(h2.block _ (blk_lt n1)).trans n1, n2, h1.trans (h2.mono h1.size)⟩

set_option maxHeartbeats 6400000 in
theorem move_c {w : World} {A B : Option Addr} {n c d : Nat} {l : List S36} {key : List Int} (o i m : Int) (hA : Kd.C k36 w A n l) (hn : l.length = n) (hc : n ≤ c) (hB : Kd.C (Kd.int .u8) w B key.length key) (hd : key.length ≤ d) (hk : key.length ≤ 4294967296) (hx : ∀ x ∈ l, x.f0.length ≤ 4294967296) (hl : n ≤ 4294967296) (hi : -1 ≤ i ∧ i ≤ (n : Int)) :
    Calls Tryz.prog 64 #[curV o A n c i, .int .i64 m, .slice B key.length d] w fun e w' => CmTold o A n c (kvC l) w (mvL (cmpO o) (kvC l) i m key) e w' := by
  subst hn
  have HA := Lib.hid (And.intro hA (And.intro hc (And.intro hB (And.intro hd (And.intro hk (And.intro hx hl))))))
  have HL := Lib.hid hl
  have HI := Lib.hid hi
  have hlen : (kvC l).length = l.length := kvC_len l
  have HLN := Lib.hid hlen
  have H2 := Lib.hid (two_new w #[.int .i64 o, .slice A l.length c, .int .i64 i] #[.int .i64 0, .slice none 0 0, .int .i64 0] 116)
  clear hA hc hB hd hk hx hl hi hlen
  unfold curV
  go_enter Tryz.func64, Tryz.ntmps64
  go_upto_region 1 with (fail)
  have ha := H2.out.1
  have hb := H2.out.2.1
  have HBL := Lib.hid H2.out.2.2
  clear H2
  generalize (w.alloc (.cells #[.int .i64 o, .slice A l.length c, .int .i64 i] 116)).alloc (.cells #[.int .i64 0, .slice none 0 0, .int .i64 0] 116) = w1 at *
  have k0 : w1.cell? ⟨w.heap.size, 0, none⟩ = some (.int .i64 o) := (blk_cell ha 0).trans rfl
  have k1 : w1.cell? ⟨w.heap.size, 1, none⟩ = some (.slice A l.length c) := (blk_cell ha 1).trans rfl
  have k2 : w1.cell? ⟨w.heap.size, 2, none⟩ = some (.int .i64 i) := (blk_cell ha 2).trans rfl
  have f2 : w1.frozen? ⟨w.heap.size, 2, none⟩ = false := blk_frozen ha 2
  have HAB := Lib.hid (And.intro ha hb)
  clear ha hb
  go_upto_block 0 with (fail)
  go_cut [] (fun wc => Hid (wc.heap[w.heap.size]? = some (.cells #[.int .i64 o, .slice A l.length c, .int .i64 (mvL (cmpO o) (kvC l) i m key)] 116 (0, 0)) ∧ wc.heap[w.heap.size + 1]? = some (.cells #[.int .i64 0, .slice none 0 0, .int .i64 0] 116 (0, 0)) ∧ Below w.heap.size w wc))
  case first =>
    have fin : ∀ j, mvL (cmpO o) (kvC l) i m key = j → Hid ((w1.setCell ⟨w.heap.size, 2, none⟩ (.int .i64 j)).heap[w.heap.size]? = some (.cells #[.int .i64 o, .slice A l.length c, .int .i64 (mvL (cmpO o) (kvC l) i m key)] 116 (0, 0)) ∧ (w1.setCell ⟨w.heap.size, 2, none⟩ (.int .i64 j)).heap[w.heap.size + 1]? = some (.cells #[.int .i64 0, .slice none 0 0, .int .i64 0] 116 (0, 0)) ∧ Below w.heap.size w (w1.setCell ⟨w.heap.size, 2, none⟩ (.int .i64 j))) := fun j hj => Lib.hid ⟨by rw [hj]; exact blk_set HAB.out.1 2 _, (Below.heap_setCell _ _ _ _ (by simp)).trans HAB.out.2, below_set HBL.out (Nat.le_refl _)⟩
    have FIN := Lib.hid fin
    clear fin
    by_cases h0 : m = 0
    · have z0 : (m == 0) = true := by rw [beq_iff_eq]; exact h0
      have HM : Hid (mvL (cmpO o) (kvC l) i m key = 0) := Lib.hid (by unfold mvL; rw [if_pos h0])
      clear h0
      go_wp2
      go_meet
      case rel => exact FIN.out _ HM.out
    · have z0 : (m == 0) = false := by rw [beq_eq_false_iff_ne]; exact h0
      by_cases h1 : m = 1
      · have z1 : (m == 1) = true := by rw [beq_iff_eq]; exact h1
        have w1' : wrap64 ((l.length : Int) - 1) = (l.length : Int) - 1 := by have := HL.out; unfold wrap64; omega
        have HM : Hid (mvL (cmpO o) (kvC l) i m key = (l.length : Int) - 1) := Lib.hid (by unfold mvL; rw [if_neg h0, if_pos h1, HLN.out])
        clear h0 h1
        go_wp2
        go_meet
        case rel => first | exact FIN.out _ HM.out | (rw [w1']; exact FIN.out _ HM.out)
      · have z1 : (m == 1) = false := by rw [beq_eq_false_iff_ne]; exact h1
        by_cases h2 : m = 2
        · have z2 : (m == 2) = true := by rw [beq_iff_eq]; exact h2
          have w1' : wrap64 (i + 1) = i + 1 := by have := HL.out; have := HI.out; unfold wrap64; omega
          have HM : Hid (mvL (cmpO o) (kvC l) i m key = if i + 1 ≤ (l.length : Int) then i + 1 else (l.length : Int)) := Lib.hid (by unfold mvL; rw [if_neg h0, if_neg h1, if_pos h2, HLN.out])
          clear h0 h1 h2
          go_wp2
          all_goals (
            go_meet
            case rel =>
              refine FIN.out _ (HM.out.trans ?_)
              split <;> omega)
        · have z2 : (m == 2) = false := by rw [beq_eq_false_iff_ne]; exact h2
          by_cases h3 : m = 3
          · have z3 : (m == 3) = true := by rw [beq_iff_eq]; exact h3
            have w1' : wrap64 (i - 1) = i - 1 := by have := HL.out; have := HI.out; unfold wrap64; omega
            have HM : Hid (mvL (cmpO o) (kvC l) i m key = if -1 ≤ i - 1 then i - 1 else -1) := Lib.hid (by unfold mvL; rw [if_neg h0, if_neg h1, if_neg h2, if_pos h3])
            clear h0 h1 h2 h3
            go_wp2
            all_goals (
              go_meet
              case rel =>
                refine FIN.out _ (HM.out.trans ?_)
                split <;> omega)
          · have z3 : (m == 3) = false := by rw [beq_eq_false_iff_ne]; exact h3
            have HM : Hid (mvL (cmpO o) (kvC l) i m key = (findL (cmpO o) key (kvC l) : Int)) := Lib.hid (by unfold mvL; rw [if_neg h0, if_neg h1, if_neg h2, if_neg h3])
            clear h0 h1 h2 h3
            go_wp2_with (go_at_call 35; (with_reducible refine (find_calls o (Kd.C_below HA.out.1 HBL.out) HA.out.2.1 (Kd.C_below HA.out.2.2.1 HBL.out) HA.out.2.2.2.1 HA.out.2.2.2.2.1 HA.out.2.2.2.2.2.1 HL.out).mono ?_); rintro e w2 ⟨rfl, hb2⟩; have g2 := (hb2.block _ (blk_lt HAB.out.1)).trans HAB.out.1; have g3 := (hb2.block _ (blk_lt HAB.out.2)).trans HAB.out.2; have f3 := blk_frozen g2 2; have k3 := (blk_cell g2 2).trans rfl)
            go_meet
            case rel => exact Lib.hid ⟨by rw [HM.out]; exact blk_set g2 2 _, (Below.heap_setCell _ _ _ _ (by simp)).trans g3, below_set (HBL.out.trans (hb2.mono HBL.out.size)) (Nat.le_refl _)⟩
  case rest =>
    have HC := hcut
    generalize hj : mvL (cmpO o) (kvC l) i m key = j at *
    have HJ := Lib.hid hj
    clear hj hcut
    have ha := HC.out.1
    have hb := HC.out.2.1
    have x0 : wc.cell? ⟨w.heap.size, 0, none⟩ = some (.int .i64 o) := (blk_cell ha 0).trans rfl
    have x1 : wc.cell? ⟨w.heap.size, 1, none⟩ = some (.slice A l.length c) := (blk_cell ha 1).trans rfl
    have x2 : wc.cell? ⟨w.heap.size, 2, none⟩ = some (.int .i64 j) := (blk_cell ha 2).trans rfl
    have y0 : wc.cell? ⟨w.heap.size + 1, 0, none⟩ = some (.int .i64 0) := (blk_cell hb 0).trans rfl
    have y1 : wc.cell? ⟨w.heap.size + 1, 1, none⟩ = some (.slice none 0 0) := (blk_cell hb 1).trans rfl
    have y2 : wc.cell? ⟨w.heap.size + 1, 2, none⟩ = some (.int .i64 0) := (blk_cell hb 2).trans rfl
    have g0 : wc.frozen? ⟨w.heap.size + 1, 0, none⟩ = false := blk_frozen hb 0
    have g1 : wc.frozen? ⟨w.heap.size + 1, 1, none⟩ = false := blk_frozen hb 1
    have g2 : wc.frozen? ⟨w.heap.size + 1, 2, none⟩ = false := blk_frozen hb 2
    have hb3 := blk_set (blk_set (blk_set hb 0 (.int .i64 o)) 1 (.slice A l.length c)) 2 (.int .i64 j)
    have q0 : (((wc.setCell ⟨w.heap.size + 1, 0, none⟩ (.int .i64 o)).setCell ⟨w.heap.size + 1, 1, none⟩ (.slice A l.length c)).setCell ⟨w.heap.size + 1, 2, none⟩ (.int .i64 j)).drew.cell? ⟨w.heap.size + 1, 0, none⟩ = some (.int .i64 o) := (blk_cell hb3 0).trans rfl
    have q1 : (((wc.setCell ⟨w.heap.size + 1, 0, none⟩ (.int .i64 o)).setCell ⟨w.heap.size + 1, 1, none⟩ (.slice A l.length c)).setCell ⟨w.heap.size + 1, 2, none⟩ (.int .i64 j)).drew.cell? ⟨w.heap.size + 1, 1, none⟩ = some (.slice A l.length c) := (blk_cell hb3 1).trans rfl
    have q2 : (((wc.setCell ⟨w.heap.size + 1, 0, none⟩ (.int .i64 o)).setCell ⟨w.heap.size + 1, 1, none⟩ (.slice A l.length c)).setCell ⟨w.heap.size + 1, 2, none⟩ (.int .i64 j)).drew.cell? ⟨w.heap.size + 1, 2, none⟩ = some (.int .i64 j) := (blk_cell hb3 2).trans rfl
    have HBF := Lib.hid (below_drew1 (below_set (g := w.heap.size + 1) (j := 2) (below_set (g := w.heap.size + 1) (j := 1) (below_set (g := w.heap.size + 1) (j := 0) HC.out.2.2 (Nat.le_succ _) (v := .int .i64 o)) (Nat.le_succ _) (v := .slice A l.length c)) (Nat.le_succ _) (v := .int .i64 j)))
    clear ha hb k0 k1 k2 f2 hb3 HC
    clear HA HI HAB HBL
    by_cases h0 : 0 ≤ j
    · have z0 : decide (0 ≤ j) = true := decide_eq_true h0
      by_cases h1 : j < (l.length : Int)
      · have z1 : decide (j < (l.length : Int)) = true := decide_eq_true h1
        have HON : Hid (onL (kvC l) j = true) := Lib.hid (by unfold onL; rw [HLN.out, z0, z1]; rfl)
        clear h0 h1
        go_upto_region 11 with (fail)
        go_region
        all_goals (
          rename_i K' hK'
          simp only [Exit.then]
          refine hK' _ _ ?_
          go_wp2
          simp [bodyPost, results, Tryz.results64, go_sem, q0, q1, q2]
          exact ⟨by rw [HJ.out, HON.out]; rfl, HBF.out⟩)
      · have z1 : decide (j < (l.length : Int)) = false := decide_eq_false h1
        have HON : Hid (onL (kvC l) j = false) := Lib.hid (by unfold onL; rw [HLN.out, z0, z1]; rfl)
        clear h0 h1
        go_upto_region 11 with (fail)
        go_region
        all_goals (
          rename_i K' hK'
          simp only [Exit.then]
          refine hK' _ _ ?_
          go_wp2
          simp [bodyPost, results, Tryz.results64, go_sem, q0, q1, q2]
          exact ⟨by rw [HJ.out, HON.out]; rfl, HBF.out⟩)
    · have z0 : decide (0 ≤ j) = false := decide_eq_false h0
      have HON : Hid (onL (kvC l) j = false) := Lib.hid (by unfold onL; rw [z0]; rfl)
      clear h0
      go_upto_region 11 with (fail)
      go_region
      all_goals (
        rename_i K' hK'
        simp only [Exit.then]
        refine hK' _ _ ?_
        go_wp2
        simp [bodyPost, results, Tryz.results64, go_sem, q0, q1, q2]
        exact ⟨by rw [HJ.out, HON.out]; rfl, HBF.out⟩)

end Go.Proofs.YtdkkkikcigjlhaaGreatDoor.Md

namespace Go.Proofs.YtdkkkikcigjlhaaGreatDoor.Md
open Go.RowKit Go.Proofs.YtdkkkikcigjlhaaGreatDoor.Con Go.Proofs.YtdkkkikcigjlhaaGreatDoor.Run Go.Proofs.YtdkkkikcigjlhaaGreatDoorW.PrintWords Go.Proofs.YtdkkkikcigjlhaaGreatDoorW.PrintMore Go.Proofs.YtdkkkikcigjlhaaGreatDoor.Cmp Go.Sort Go.RwLone

theorem three_sums {a h n : Nat} (h1 : a + 4 + h ≤ n) (h2 : 1 ≤ h) (hn : n ≤ 1099511627776) :
    (a : Int) + 3 < (n : Int) ∧ (0 : Int) ≤ (a : Int) + 3 ∧ ((a : Int) + 3).toNat = a + 3 ∧ wrap64 ((a : Int) + 3) = (a : Int) + 3 :=
  ⟨by omega, by omega, by omega, wz (by omega) (by omega)⟩

theorem next_idx {i n : Nat} (h : i < n) (hn : n ≤ 12) : wrap64 ((i : Int) + 1) = ((i + 1 : Nat) : Int) := by rw [wz (by omega) (by omega)]; rfl
theorem round_less {i n k : Nat} (h : i < n) (hk : n ≤ i + k) : k - 1 < k := by omega
theorem round_next {i n k : Nat} (h : i < n) (hk : n ≤ i + k) : i + 1 ≤ n ∧ n ≤ i + 1 + (k - 1) := by omega

theorem size_sums {kl vl m : Nat} {o : Nat} {sz n : Int} (h : o + kl + vl ≤ m) (hm : m ≤ 1099511627776) (hs : 0 ≤ sz ∧ sz ≤ 1099511627776) (hn : 0 ≤ n ∧ n ≤ 1099511627776) :
    IntKind.i64.wrap ((kl : Int) + (vl : Int)) = (kl : Int) + (vl : Int) ∧ IntKind.i64.wrap (sz - ((kl : Int) + (vl : Int))) = sz - ((kl : Int) + (vl : Int)) ∧ wrap64 (n - 1) = n - 1 := by
  refine ⟨iz (by omega) (by omega), ?_, ?_⟩
  · rw [IntKind.wrap_i64]; omega
  · unfold wrap64; omega

def DropTold (w : World) (base p g : Nat) (vk vn V : Value) (r : Nat) (mh n sz : Int) (kv nd key : List Int) (P R : List Node) (f : List Int → List Int → Int) (er : Value) (e : Ending) (w' : World) : Prop :=
  Fr w w' (fun k => k = p ∨ k = g) ∧ ∃ cs' q', 
  (((¬ ∃ x R', R = x :: R' ∧ f x.key key = 0) ∧ e = .returned er ∧ Tab w' base p cs' vk vn kv nd ∧ Cs cs' V r 0 0 vk vn q' mh n sz) ∨
    ∃ x R', R = x :: R' ∧ f x.key key = 0 ∧ e = .returned .nilIface ∧ Tab w' base p cs' vk vn kv (delN P x.h nd) ∧ Cs cs' V r 0 0 vk vn q' mh (n - 1) (sz - ((x.key.length : Int) + (x.val.length : Int))))

set_option maxHeartbeats 1600000 in
set_option maxRecDepth 100000 in
theorem Del_calls {w : World} {base p r mh c ck ca g : Nat} {cs : Array Value} {V er : Value} {Kx A0 : Option Addr} {n sz : Int} {q : Nat → Int} {kv nd key : List Int} {ns P R : List Node} {f : List Int → List Int → Int}
    (hT : Tab w base p cs (.slice Kx kv.length ck) (.slice (some ⟨g, 0, none⟩) nd.length c) kv nd) (hC : Cs cs V r 0 0 (.slice Kx kv.length ck) (.slice (some ⟨g, 0, none⟩) nd.length c) q (mh : Int) n sz) (hS : Skip nd kv mh ns) (hl : nd.length ≤ 1099511627776) (hkl : kv.length ≤ 1099511627776) (hck : kv.length ≤ ck)
    (hV : Cmpr V f) (hns : ns = P ++ R) (hP : ∀ x ∈ P, f x.key key < 0) (hR : ∀ x ∈ R, 0 ≤ f x.key key) (hs : Sorted f R) (hbk : Byt key) (hbv : ∀ x ∈ ns, Byt x.key)
    (hA : Kd.C (Kd.int .u8) w A0 key.length key) (hne : 0 < key.length → ∀ a, A0 = some a → a.block ≠ p) (hE : w.cell? ⟨0, 0, none⟩ = some er) (hp0 : 0 ≠ p) (hn : 0 ≤ n ∧ n ≤ 1099511627776) (hsz : 0 ≤ sz ∧ sz ≤ 1099511627776) :
    Calls Tryz.prog 72 #[.pointer (some ⟨p, 0, none⟩), .slice A0 key.length ca] w fun e w' => DropTold w base p g (.slice Kx kv.length ck) (.slice (some ⟨g, 0, none⟩) nd.length c) V r (mh : Int) n sz kv nd key P R f er e w' := by
  have c2 : w.cell? ⟨p, 2, none⟩ = some (.int .i32 0) := (blk_cell hT.cell 2).trans hC.c2
  have c4 : w.cell? ⟨p, 4, none⟩ = some (.int .u32 0) := (blk_cell hT.cell 4).trans hC.c4
  have c5 : w.cell? ⟨p, 5, none⟩ = some (.int .u32 0) := (blk_cell hT.cell 5).trans hC.c5
  have c6 : w.cell? ⟨p, 6, none⟩ = some (.int .i32 0) := (blk_cell hT.cell 6).trans hC.c6
  have f2 := blk_frozen hT.cell 2
  have f6 := blk_frozen hT.cell 6
  have hT1 := (hT.set 2 (.int .i32 1)).set 6 (.int .i32 (-1073741824))
  have hC1 := (hC.set2 1).set6 (-1073741824)
  have hg1 := (grown_set w p 2 (.int .i32 1)).trans (grown_set (w.setCell ⟨p, 2, none⟩ (.int .i32 1)) p 6 (.int .i32 (-1073741824)))
  have hE1 : ((w.setCell ⟨p, 2, none⟩ (.int .i32 1)).setCell ⟨p, 6, none⟩ (.int .i32 (-1073741824))).cell? ⟨0, 0, none⟩ = some er := hg1.cell hE (fun e => hp0 (by injection e))
  have HGE := Lib.hid (GE_calls (ca := ca) hT1 hC1 hS hl hkl hck hV hns hP hR hs hbk hbv (C_grown hA hg1 hne) hne)
  have hgp : g ≠ p := by
    have := own_ne hT.nd hT.cell (by decide)
    exact fun e => this (by rw [← e]; rfl)
  have HG1 := Lib.hid hg1
  have HE1 := Lib.hid hE1
  have HS := Lib.hid hS
  have HL := Lib.hid (And.intro hl (And.intro hkl hck))
  have HNS := Lib.hid hns
  have HN := Lib.hid (And.intro hn hsz)
  have HGP := Lib.hid hgp
  have HP0 := Lib.hid hp0
  clear hT hC hS hl hkl hck hV hns hP hR hs hbk hbv hA hne hT1 hC1 hg1 hE hE1 hn hsz hgp hp0
  go_enter_defers Tryz.func72, Tryz.ntmps72
  go_wp2_with (fail)
  refine (wlock_free rwWLib p 2 _ _ _ c2 c4 c5 c6 f2 f6).mono ?_
  rintro e w' ⟨rfl, rfl⟩
  simp only [show 2 + 4 = 6 from rfl]
  generalize (w.setCell ⟨p, 2, none⟩ (.int .i32 1)).setCell ⟨p, 6, none⟩ (.int .i32 (-1073741824)) = w1 at *
  go_upto_if 25 with (go_at_call 89; (with_reducible refine HGE.out.mono ?_); rintro e w2 ⟨ex, rfl, hex, hg2, cs2, q2, hT2, hC2, hq2, _⟩)
  have HT2 := Lib.hid hT2
  have HC2 := Lib.hid hC2
  have HX := Lib.hid (And.intro hex (And.intro hg2 hq2))
  clear hex hT2 hC2 hg2 hq2
  cases ex with
  | false =>
    have e0 : w2.cell? ⟨0, 0, none⟩ = some er := HX.out.2.1.cell HE1.out (fun e => HP0.out (by injection e))
    go_wp2_with (fail)
    refine leaves_cons (f := 88) (args := #[.pointer (some ⟨p, 2, none⟩)]) (by simp) (by simp [go_sem]) ?_
    refine (wunlock_deferred rwWLib p 2 (.int .u32 0) (.int .u32 0) .returning _ ((blk_cell HT2.out.cell 2).trans HC2.out.c2) ((blk_cell HT2.out.cell 4).trans HC2.out.c4) ((blk_cell HT2.out.cell 5).trans HC2.out.c5) ((blk_cell HT2.out.cell 6).trans HC2.out.c6) (blk_frozen HT2.out.cell 2) (blk_frozen HT2.out.cell 6)).mono ?_
    rintro e u' w'' ⟨rfl, rfl, rfl⟩
    refine ⟨_, results_tmp rfl _ _ _, Fr.of_grown (HG1.out.trans (HX.out.2.1.trans ((grown_set _ _ _ _).trans (grown_set _ _ _ _)))) (fun k hk => .inl (by injection hk with hk; exact hk.symm)), _, _, .inl ⟨fun h => (by cases HX.out.1.2 h), rfl, (HT2.out.set 6 _).set 2 _, (HC2.out.set6 0).set2 0⟩⟩
  | true =>
    obtain ⟨x, R', hR', hx0⟩ := HX.out.1.1 rfl
    have hns : ns = P ++ x :: R' := by rw [HNS.out, hR']
    have hxo := HS.out.ok x (by rw [hns]; simp)
    have e1 : nxt 0 R = x.a := by rw [hR', nxt, if_pos (by have := hxo.h1; omega)]
    have hx12 : x.h ≤ 12 := Nat.le_trans hxo.hm HS.out.m12
    have HXO := Lib.hid hxo
    have HNS2 := Lib.hid hns
    have HY := Lib.hid (And.intro hR' hx0)
    have x3 : w2.cell? ⟨g, x.a + 3, none⟩ = some (.int .i64 (x.h : Int)) := by
      have := HT2.out.num (i := x.a + 3) (by have := hxo.end_; omega)
      rwa [hxo.ht] at this
    obtain ⟨b1, b2, b3, b4⟩ : (x.a : Int) + 3 < (nd.length : Int) ∧ (0 : Int) ≤ (x.a : Int) + 3 ∧ ((x.a : Int) + 3).toNat = x.a + 3 ∧ wrap64 ((x.a : Int) + 3) = (x.a : Int) + 3 := three_sums hxo.end_ hxo.h1 HL.out.1
    have d9 : w2.cell? ⟨p, 9, none⟩ = some (.slice (some ⟨g, 0, none⟩) nd.length c) := (blk_cell HT2.out.cell 9).trans HC2.out.c9
    have HH12 := Lib.hid hx12
    have h12 : (x.h : Int) ≤ 12 := by omega
    have h0 : (0 : Int) ≤ (x.h : Int) := Int.natCast_nonneg _
    rw [e1]
    clear hR' hx0 hns hxo e1 hx12
    generalize hxa : x.a = xa at *
    generalize hxh : x.h = xh at *
    have HXA := Lib.hid (And.intro hxa hxh)
    clear hxa hxh
    go_wp2_with (fail)
    go_loopg [41] xh (fun k v41 w' => ∃ i : Nat, v41 = .int .i64 (i : Int) ∧ Hid (i ≤ xh ∧ xh ≤ i + k) ∧ Hid (Fr w2 w' (fun k => k = g)) ∧ Hid (Tab w' base p cs2 (.slice Kx kv.length ck) (.slice (some ⟨g, 0, none⟩) (delN P i nd).length c) kv (delN P i nd)))
    case atStart => exact ⟨0, rfl, Lib.hid ⟨by omega, by omega⟩, Lib.hid (Fr.refl _ _), HT2⟩
    case round =>
      obtain ⟨i, rfl, HI, HFR, HT3⟩ := hrel
      have c9 : wr.cell? ⟨p, 9, none⟩ = some (.slice (some ⟨g, 0, none⟩) nd.length c) := (blk_cell HT3.out.cell 9).trans HC2.out.c9
      have hle := HI.out.1
      by_cases hi : i < xh
      · have z0 : decide ((i : Int) < (xh : Int)) = true := decide_eq_true (by omega)
        have hix : i < x.h := by rw [HXA.out.2]; exact hi
        have hi12 : i < 12 := Nat.lt_of_lt_of_le hi HH12.out
        have him : i < mh := Nat.lt_of_lt_of_le hix HXO.out.hm
        have e10 : wr.cell? ⟨p, 10 + i, none⟩ = some (.int .i64 ((prv i P : Nat) : Int)) := by
          have := (blk_cell HT3.out.cell (10 + i)).trans (HC2.out.cq i hi12)
          rw [HX.out.2.2 i him] at this
          exact this
        have hsl := HS.out.slot HNS2.out hi12
        have hxs : xa + 4 + i < nd.length := by have := HXO.out.end_; rw [HXA.out.1, HXA.out.2] at this; omega
        have hat := del_at HS.out HNS2.out hix
        have hnx := del_next HS.out HNS2.out hix
        rw [HXA.out.1] at hat hnx
        obtain ⟨s1, s2, s3, s4, s5, s6, s7⟩ := link_sums hsl HL.out.1
        obtain ⟨t1, t2, t3, t4, t5, t6, t7⟩ := link_sums hxs HL.out.1
        have m1 := HT3.out.numG (i := prv i P + 4 + i) (by rw [delN_len]; exact hsl)
        have m2 := HT3.out.numG (i := xa + 4 + i) (by rw [delN_len]; exact hxs)
        rw [hat] at m1
        have HNX := Lib.hid hnx
        clear hat hnx hix hi12 him hsl hxs hle HT2
        generalize hpa : prv i P = a at *
        go_wp2_with (fail)
        refine still_tail 22 (by kernel_rfl) (by kernel_rfl) ?_
        intro W3 hW3
        have HT4 := Lib.hid (HT3.out.below (drew_below hW3))
        have HF4 := Lib.hid (HFR.out.then_ (Fr.of_below (drew_below hW3) _) (fun k h => .inl h))
        have c9 := drew_cell hW3 c9
        have m1a := drew_cell hW3 m1.1
        have m2a := drew_cell hW3 m2.1
        have m1f : W3.frozen? ⟨g, a + 4 + i, none⟩ = false := by rw [hW3]; exact m1.2
        have HNX := Lib.hid (And.intro HNX.out hpa)
        clear hW3 m1 m2 HT3 HFR
        simp only [List.take_succ_cons, List.take_zero, List.drop_succ_cons, List.drop_zero]
        repeat still_step
        refine wpStill_nil ?_
        generalize hvv : G (delN P i nd) (xa + 4 + i) = vv at *
        have hlt := HI.out.2
        have w1 : wrap64 ((i : Int) + 1) = (i : Int) + 1 := next_idx hi HH12.out
        have HLT := Lib.hid (And.intro hi hlt)
        clear s1 s2 s3 s4 s5 s6 s7 t1 t2 t3 t4 t5 t6 t7 hi hlt z0 c9 m2a
        go_wp2
        go_roundg (gk - 1)
        case measure => exact round_less HLT.out.1 HLT.out.2
        case rel =>
          refine ⟨i + 1, (by first | rfl | exact congrArg _ w1 | go_num), Lib.hid (round_next HLT.out.1 HLT.out.2), Lib.hid (HF4.out.setCell (.inl rfl) _), ?_⟩
          rw [HNX.out.1]
          have h := HT4.out.setNd (a + 4 + i) vv
          rw [List.length_set]
          exact h
      · have z0 : decide ((i : Int) < (xh : Int)) = false := decide_eq_false (by omega)
        have hix : i = xh := by omega
        have hih : i ≤ x.h := by rw [HXA.out.2]; exact hle
        have hxe : xa + 4 ≤ nd.length := by have := HXO.out.end_; rw [HXA.out.1] at this; omega
        have HB := Lib.hid (node_sums hxe HL.out.1)
        obtain ⟨o, _, k2, _, _⟩ := HXO.out.cell
        have HU := Lib.hid (size_sums (n := n) (sz := sz) k2 HL.out.2.1 HN.out.2 HN.out.1)
        have x1 : wr.cell? ⟨g, xa + 1, none⟩ = some (.int .i64 (x.key.length : Int)) := by
          have := HT3.out.num (i := xa + 1) (by rw [delN_len]; omega)
          rw [← HXA.out.1, del_cells HS.out HNS2.out hih (by omega), HXO.out.kl] at this
          rw [← HXA.out.1]
          exact this
        have x2 : wr.cell? ⟨g, xa + 2, none⟩ = some (.int .i64 (x.val.length : Int)) := by
          have := HT3.out.num (i := xa + 2) (by rw [delN_len]; omega)
          rw [← HXA.out.1, del_cells HS.out HNS2.out hih (by omega), HXO.out.vl] at this
          rw [← HXA.out.1]
          exact this
        have HIX := Lib.hid hix
        clear hih hxe k2 hle hix HT2
        generalize hkl : x.key.length = kl at *
        generalize hvl : x.val.length = vl at *
        have HKV := Lib.hid (And.intro hkl hvl)
        clear hkl hvl
        go_wp2_with (fail)
        obtain ⟨_, b1, b1', b2, b2', b3, b3', _, _, b7, b7'⟩ := HB.out
        obtain ⟨u1, u2, _⟩ := HU.out
        refine still_tail 24 (by kernel_rfl) (by kernel_rfl) ?_
        intro W3 hW3
        have HT4 := Lib.hid (HT3.out.below (drew_below hW3))
        have HF4 := Lib.hid (HFR.out.then_ (Fr.of_below (drew_below hW3) _) (fun k h => .inl h))
        have c9 := drew_cell hW3 c9
        have x1 := drew_cell hW3 x1
        have x2 := drew_cell hW3 x2
        have c24 : W3.cell? ⟨p, 24, none⟩ = some (.int .i64 sz) := (blk_cell HT4.out.cell 24).trans HC2.out.c24
        clear hW3 HT3 HFR
        simp only [List.take_succ_cons, List.take_zero, List.drop_succ_cons, List.drop_zero]
        repeat still_step
        refine wpStill_nil ?_
        have c23 : W3.cell? ⟨p, 23, none⟩ = some (.int .i64 n) := (blk_cell HT4.out.cell 23).trans HC2.out.c23
        have f23 := blk_frozen HT4.out.cell 23
        have f24 := blk_frozen HT4.out.cell 24
        have u3 := HU.out.2.2
        have HT5 := Lib.hid ((HT4.out.set 24 (.int .i64 (sz - ((kl : Int) + (vl : Int))))).set 23 (.int .i64 (n - 1)))
        have HC5 := Lib.hid ((HC2.out.set24 (sz - ((kl : Int) + (vl : Int)))).set23 (n - 1))
        clear x1 x2 b1 b1' b2 b2' b3 b3' b7 b7' u1 u2 c9
        go_wp2_with (fail)
        refine leaves_cons (f := 88) (args := #[.pointer (some ⟨p, 2, none⟩)]) (by simp) (by simp [go_sem]) ?_
        refine (wunlock_deferred rwWLib p 2 (.int .u32 0) (.int .u32 0) .returning _ ((blk_cell HT5.out.cell 2).trans HC5.out.c2) ((blk_cell HT5.out.cell 4).trans HC5.out.c4) ((blk_cell HT5.out.cell 5).trans HC5.out.c5) ((blk_cell HT5.out.cell 6).trans HC5.out.c6) (blk_frozen HT5.out.cell 2) (blk_frozen HT5.out.cell 6)).mono ?_
        rintro e u' w'' ⟨rfl, rfl, rfl⟩
        have hT6 := (HT5.out.set 6 (.int .i32 0)).set 2 (.int .i32 0)
        have hC6 := (HC5.out.set6 0).set2 0
        rw [delN_len, HIX.out] at hT6
        have F1 := (Fr.of_grown (S := fun k => k = p ∨ k = g) (HG1.out.trans HX.out.2.1) (fun k hk => .inl (by injection hk with hk; exact hk.symm))).then_ HF4.out (fun k hk => .inl (.inr hk))
        have F2 := (((F1.setCell (p := ⟨p, 24, none⟩) (.inl (.inl rfl)) (.int .i64 (sz - ((kl : Int) + (vl : Int))))).setCell (p := ⟨p, 23, none⟩) (.inl (.inl rfl)) (.int .i64 (n - 1))).setCell (p := ⟨p, 6, none⟩) (.inl (.inl rfl)) (.int .i32 0)).setCell (p := ⟨p, 2, none⟩) (.inl (.inl rfl)) (.int .i32 0)
        have e1 := HXA.out.2
        have e2 := HKV.out.1
        have e3 := HKV.out.2
        rw [← e1] at hT6
        subst e2 e3
        exact ⟨_, results_tmp rfl _ _ _, F2, _, _, .inr ⟨x, R', HY.out.1, HY.out.2, rfl, hT6, hC6⟩⟩

end Go.Proofs.YtdkkkikcigjlhaaGreatDoor.Md
