/- The reference's orders and its search, as printed: what they tell. The laws' own bounds: bounds.add, within, fewPairs. The locks of this dump: their functions and types, by name. The memory table in memory: its cells, its two rows. The memory table: its last node. The memory table: the search of a key. -/
import Derived.Test.YtdkkkikcigjlhaaGreatDoorMm03
import Derived.Test.YtdkkkikcigjlhaaGreatDoorMm04
import Derived.Test.YtdkkkikcigjlhaaGreatDoorProg
import Derived.Conc.RwLib
import Derived.Conc.MuData
import Derived.KernelRfl
import Derived.Conc.RwLoneW
import Derived.Deep.LoopGhost
set_option linter.unusedVariables false
set_option linter.unusedSimpArgs false
namespace Go.Proofs.YtdkkkikcigjlhaaGreatDoor.Md
open Go.RowKit Go.Proofs.YtdkkkikcigjlhaaGreatDoor.Con Go.Proofs.YtdkkkikcigjlhaaGreatDoor.Run Go.Proofs.YtdkkkikcigjlhaaGreatDoorW.PrintWords Go.Proofs.YtdkkkikcigjlhaaGreatDoorW.PrintMore Go.Proofs.YtdkkkikcigjlhaaGreatDoor.Cmp Go.Sort Go.Proofs.YtdkkkikcigjlhaaGreatDoor.PFnMemMap

theorem sp_drop_rd (l : List Int) (i : Nat) (h : i < l.length) : l.drop i = rd l (i : Int) :: l.drop (i + 1) := by
  rw [List.drop_eq_getElem_cons h]
  simp [rd, List.getD_eq_getElem?_getD, h]

theorem sp_up (i : Nat) (n : Nat) (h : i < n) (hn : n ≤ 9223372036854775807) : wrap64 ((i : Int) + 1) = ((i + 1 : Nat) : Int) := by
  unfold wrap64; omega

theorem sp_cons (x y : Int) (l m : List Int) : cmpI (x :: l) (y :: m) = if x < y then -1 else if y < x then 1 else cmpI l m := rfl

theorem sp_cmp_l0 (l m : List Int) (hl : l.length ≤ 9223372036854775807) (d : Nat) : ∀ i : Nat, l.length - i = d → i ≤ l.length → i ≤ m.length → ∀ k, 2 * d + 2 ≤ k →
    spec_BytesCompare.l0 k l m (i : Int) = some (cmpI (l.drop i) (m.drop i)) := by
  induction d with
  | zero =>
    intro i h1 h2 h3 k hk
    obtain ⟨k, rfl⟩ : ∃ q, k = q + 2 := ⟨k - 2, by omega⟩
    have e : l.drop i = [] := List.drop_eq_nil_of_le (by omega)
    simp only [spec_BytesCompare.l0]
    rw [if_neg (by omega)]
    simp only [spec_BytesCompare.j1]
    rw [if_neg (by simp), e]
    rcases Nat.lt_or_ge i m.length with c | c
    · rw [if_pos (by omega), sp_drop_rd m i c]
      rfl
    · rw [if_neg (by omega), if_neg (by omega), List.drop_eq_nil_of_le c]
      rfl
  | succ d ih =>
    intro i h1 h2 h3 k hk
    obtain ⟨k, rfl⟩ : ∃ q, k = q + 2 := ⟨k - 2, by omega⟩
    have hi : i < l.length := by omega
    simp only [spec_BytesCompare.l0]
    rw [if_pos (by omega)]
    simp only [spec_BytesCompare.j1]
    by_cases hm : i < m.length
    · rw [if_pos (by rw [decide_eq_true_iff]; omega), if_pos (by omega), if_pos (by omega), if_pos (by omega), sp_drop_rd l i hi, sp_drop_rd m i hm, sp_cons]
      by_cases h : rd l (i : Int) < rd m (i : Int)
      · rw [if_pos h, if_pos h]
      · rw [if_neg h, if_neg h]
        by_cases g : rd l (i : Int) > rd m (i : Int)
        · rw [if_pos g, if_pos g]
        · rw [if_neg g, if_neg g, sp_up i l.length hi hl, ih (i + 1) (by omega) (by omega) (by omega) k (by omega)]
    · rw [if_neg (by simp; omega), sp_drop_rd l i hi, List.drop_eq_nil_of_le (by omega : m.length ≤ i), if_neg (by omega), if_pos (by omega)]
      rfl

theorem sp_compare (l m : List Int) (hl : l.length ≤ 9223372036854775807) (k : Nat) (hk : 2 * l.length + 2 ≤ k) : spec_BytesCompare.f k l m = some (cmpI l m) := by
  have h := sp_cmp_l0 l m hl l.length 0 (by omega) (by omega) (by omega) k hk
  simpa [spec_BytesCompare.f] using h

theorem sp_same (l m : List Int) (hl : l.length ≤ 9223372036854775807) (k : Nat) (hk : 2 * l.length + 2 ≤ k) : spec_BytesSame.f k l m = some (decide (l = m)) := by
  unfold spec_BytesSame.f
  rw [sp_compare l m hl k hk]
  simp only [Option.bind_some]
  congr 1
  have h2 := @cmpI_zero l m
  by_cases e : l = m
  · simp [e, cmpI_refl]
  · have : ¬ cmpI l m = 0 := fun z => e (h2.1 z)
    simp [e, this]

def Sg (v u : Int) : Prop := (v < 0 ↔ u < 0) ∧ (v = 0 ↔ u = 0)
theorem Sg.refl (v : Int) : Sg v v := ⟨Iff.rfl, Iff.rfl⟩

theorem sp_j0 (k : Nat) (o : Int) (l m : List Int) (b : Bool) : spec_OrderCompare.j0 (k + 1) o l m b = if b = true then ((spec_BytesCompare.f k m l).bind fun t131 => (some t131)) else (if o = 2 then (if (l.length : Int) = (m.length : Int) then ((spec_BytesCompare.f k l m).bind fun t132 => (some t132)) else (some (wrap64 ((l.length : Int) - (m.length : Int))))) else ((spec_BytesCompare.f k l m).bind fun t133 => (some t133))) := by
  rw [spec_OrderCompare.j0]

theorem sp_order (o : Int) (l m : List Int) (hl : l.length ≤ 4294967296) (hm : m.length ≤ 4294967296) : ∃ v, Sg v (cmpO o l m) ∧ ∀ k, 2 * l.length + 2 * m.length + 3 ≤ k → spec_OrderCompare.f k o l m = some v := by
  by_cases h1 : o = 1
  · subst h1
    refine ⟨cmpO 1 l m, Sg.refl _, fun k hk => ?_⟩
    obtain ⟨k, rfl⟩ : ∃ q, k = q + 1 := ⟨k - 1, by omega⟩
    unfold spec_OrderCompare.f cmpO
    rw [if_pos rfl, if_pos rfl]
    by_cases a : l.length = 0
    · rw [if_neg (by omega), if_pos (.inl a)]
      rw [sp_j0]
      rw [if_neg (by simp), if_neg (by decide), sp_compare l m (by omega) k (by omega)]
      rfl
    · rw [if_pos (by omega)]
      by_cases b : m.length = 0
      · rw [if_pos (.inr b), decide_eq_false (by omega)]
        rw [sp_j0]
        rw [if_neg (by simp), if_neg (by decide), sp_compare l m (by omega) k (by omega)]
        rfl
      · rw [if_neg (by omega), decide_eq_true (by omega)]
        rw [sp_j0]
        rw [if_pos rfl, sp_compare m l (by omega) k (by omega)]
        rfl
  · by_cases h2 : o = 2
    · subst h2
      by_cases a : l.length = m.length
      · refine ⟨cmpO 2 l m, Sg.refl _, fun k hk => ?_⟩
        obtain ⟨k, rfl⟩ : ∃ q, k = q + 1 := ⟨k - 1, by omega⟩
        unfold spec_OrderCompare.f cmpO
        rw [if_neg (by decide), if_neg (by decide), if_pos rfl, if_pos a]
        rw [sp_j0]
        rw [if_neg (by simp), if_pos rfl, if_pos (by omega), sp_compare l m (by omega) k (by omega)]
        rfl
      · refine ⟨(l.length : Int) - (m.length : Int), ?_, fun k hk => ?_⟩
        · unfold cmpO Sg
          rw [if_neg (by decide), if_pos rfl, if_neg a]
          by_cases b : l.length < m.length
          · rw [if_pos b]; omega
          · rw [if_neg b]; omega
        · obtain ⟨k, rfl⟩ : ∃ q, k = q + 1 := ⟨k - 1, by omega⟩
          unfold spec_OrderCompare.f
          rw [if_neg (by decide)]
          rw [sp_j0]
          rw [if_neg (by simp), if_pos rfl, if_neg (by omega)]
          congr 1
          unfold wrap64; omega
    · refine ⟨cmpO o l m, Sg.refl _, fun k hk => ?_⟩
      obtain ⟨k, rfl⟩ : ∃ q, k = q + 1 := ⟨k - 1, by omega⟩
      unfold spec_OrderCompare.f cmpO
      rw [if_neg h1, if_neg h1, if_neg h2]
      rw [sp_j0]
      rw [if_neg (by simp), if_neg h2, sp_compare l m (by omega) k (by omega)]
      rfl

def kvC (l : List S36) : List KV := l.map fun x => (x.f0, x.f1)

theorem rd36 (l : List S36) (i : Nat) (h : i < l.length) : l.drop i = rd_T36 l (i : Int) :: l.drop (i + 1) := by
  rw [List.drop_eq_getElem_cons h]
  simp [rd_T36, List.getD_eq_getElem?_getD, h]

theorem sp_find_l0 (o : Int) (l : List S36) (key : List Int) (m : Nat) (hm : m ≤ 4294967296) (hk : key.length ≤ m) (hx : ∀ x ∈ l, x.f0.length ≤ m) (hl : l.length ≤ 4294967296) (d : Nat) : ∀ i : Nat, l.length - i = d → i ≤ l.length → ∀ k, d + 4 * m + 4 ≤ k →
    spec_CursorFind.l0 k o l key (i : Int) = some (((i + findL (cmpO o) key (kvC (l.drop i)) : Nat)) : Int) := by
  induction d with
  | zero =>
    intro i h1 h2 k hk'
    obtain ⟨k, rfl⟩ : ∃ q, k = q + 1 := ⟨k - 1, by omega⟩
    have e : l.drop i = [] := List.drop_eq_nil_of_le (by omega)
    simp only [spec_CursorFind.l0]
    rw [if_neg (by omega), e]
    rfl
  | succ d ih =>
    intro i h1 h2 k hk'
    obtain ⟨k, rfl⟩ : ∃ q, k = q + 1 := ⟨k - 1, by omega⟩
    have hi : i < l.length := by omega
    have hd := rd36 l i hi
    have hmem : rd_T36 l (i : Int) ∈ l := List.mem_of_mem_drop (i := i) (by rw [hd]; simp)
    have hxl := hx _ hmem
    obtain ⟨v, hs, hv⟩ := sp_order o (rd_T36 l (i : Int)).f0 key (by omega) (by omega)
    simp only [spec_CursorFind.l0]
    rw [if_pos (by omega), if_pos (by omega), hv k (by omega)]
    simp only [Option.bind_some]
    rw [hd]
    simp only [kvC, List.map_cons, findL]
    by_cases q : v < 0
    · rw [if_pos q, if_pos (hs.1.1 q), sp_up i l.length hi (by omega), ih (i + 1) (by omega) (by omega) k (by omega)]
      simp only [kvC]
      congr 2
      omega
    · rw [if_neg q, if_neg (fun z => q (hs.1.2 z))]
      rfl

theorem sp_find (o : Int) (l : List S36) (key : List Int) (m : Nat) (hm : m ≤ 4294967296) (hk : key.length ≤ m) (hx : ∀ x ∈ l, x.f0.length ≤ m) (hl : l.length ≤ 4294967296) : ∃ k, spec_CursorFind.f k o l key = some ((findL (cmpO o) key (kvC l) : Nat) : Int) := by
  refine ⟨l.length + 4 * m + 4, ?_⟩
  have h := sp_find_l0 o l key m hm hk hx hl l.length 0 (by omega) (by omega) _ (Nat.le_refl _)
  simpa [spec_CursorFind.f] using h

section
variable {w : World} {A B : Option Addr} {c d : Nat}

theorem same_calls {l k : List Int} (hA : Kd.C (Kd.int .u8) w A l.length l) (hc : l.length ≤ c) (hB : Kd.C (Kd.int .u8) w B k.length k) (hd : k.length ≤ d) :
    Calls Tryz.prog 20 #[.slice A l.length c, .slice B k.length d] w fun e w' => e = .returned (.bool (decide (l = k))) ∧ Below w.heap.size w w' := by
  refine (spec_BytesSame.calls (2 * l.length + 2) A c l B d k _ w hA hc hB hd (sp_same l k (Kd.C_max hA) _ (Nat.le_refl _))).mono ?_
  rintro e w' ⟨rfl, hw⟩
  exact ⟨rfl, hw.below⟩

theorem find_calls (o : Int) {l : List S36} {key : List Int} (hA : Kd.C k36 w A l.length l) (hc : l.length ≤ c) (hB : Kd.C (Kd.int .u8) w B key.length key) (hd : key.length ≤ d) (hk : key.length ≤ 4294967296) (hx : ∀ x ∈ l, x.f0.length ≤ 4294967296) (hl : l.length ≤ 4294967296) :
    Calls Tryz.prog 35 #[.int .i64 o, .slice A l.length c, .slice B key.length d] w fun e w' => e = .returned (.int .i64 ((findL (cmpO o) key (kvC l) : Nat) : Int)) ∧ Below w.heap.size w w' := by
  obtain ⟨k, h⟩ := sp_find o l key 4294967296 (Nat.le_refl _) hk hx hl
  refine (spec_CursorFind.calls k o A c l B d key _ w hA hc hB hd h).mono ?_
  rintro e w' ⟨rfl, hw⟩
  exact ⟨rfl, hw.below⟩
end

def hitL (f : List Int → List Int → Int) (key : List Int) (L : List KV) : Bool := match L[findL f key L]? with
  | some x => decide (x.1 = key)
  | none => false

theorem kvC_take (l : List S36) (n : Nat) : kvC (l.take n) = (kvC l).take n := List.map_take
theorem kvC_drop (l : List S36) (n : Nat) : kvC (l.drop n) = (kvC l).drop n := List.map_drop
theorem kvC_app (l k : List S36) : kvC (l ++ k) = kvC l ++ kvC k := List.map_append
theorem kvC_len (l : List S36) : (kvC l).length = l.length := List.length_map _
theorem kvC_get (l : List S36) (n : Nat) : (kvC l)[n]? = l[n]?.map fun x => (x.f0, x.f1) := List.getElem?_map

def putC (f : List Int → List Int → Int) (key val : List Int) (l : List S36) : List S36 :=
  (l.take (findL f key (kvC l)) ++ [⟨key, val⟩]) ++ (if hitL f key (kvC l) = true then l.drop (findL f key (kvC l) + 1) else l.drop (findL f key (kvC l)))

def asC (l : List S44) : List S36 := l.map fun x => ⟨x.f0, x.f1⟩
end Go.Proofs.YtdkkkikcigjlhaaGreatDoor.Md

namespace Go.Proofs.YtdkkkikcigjlhaaGreatDoor.Md
open Go.RowKit Go.Proofs.YtdkkkikcigjlhaaGreatDoor.Con Go.Proofs.YtdkkkikcigjlhaaGreatDoor.Run Go.Proofs.YtdkkkikcigjlhaaGreatDoorW.PrintWords Go.Proofs.YtdkkkikcigjlhaaGreatDoorW.PrintMore Go.Proofs.YtdkkkikcigjlhaaGreatDoor.Cmp Go.Sort Go.Proofs.YtdkkkikcigjlhaaGreatDoor.PFnMemMap

theorem within_calls {w : World} {g : Nat} {b n : Int} (h : w.heap[g]? = some (.cells #[.int .i64 b, .int .i64 n] 86 (0, 0))) :
    Calls Tryz.prog 45 #[.pointer (some ⟨g, 0, none⟩)] w fun e w' => e = .returned (.bool (decide (b ≤ 1048576 ∧ n ≤ 4096))) ∧ w = w' := by
  have e0 : w.cell? ⟨g, 0, none⟩ = some (.int .i64 b) := (blk_cell h 0).trans rfl
  have e1 : w.cell? ⟨g, 1, none⟩ = some (.int .i64 n) := (blk_cell h 1).trans rfl
  by_cases hb : b ≤ 1048576
  · by_cases hn : n ≤ 4096
    · rw [decide_eq_true (⟨hb, hn⟩ : b ≤ 1048576 ∧ n ≤ 4096)]
      go_enter Tryz.func45, Tryz.ntmps45
      go_wp2
      go_ret
      exact ⟨rfl, rfl⟩
    · rw [decide_eq_false (fun q => hn q.2)]
      go_enter Tryz.func45, Tryz.ntmps45
      go_wp2
      go_ret
      exact ⟨rfl, rfl⟩
  · rw [decide_eq_false (fun q => hb q.1)]
    go_enter Tryz.func45, Tryz.ntmps45
    go_wp2
    go_ret
    exact ⟨rfl, rfl⟩

abbrev Sl := Option Addr × Nat × Nat
def slV (x : Sl) : Value := .slice x.1 x.2.1 x.2.2
def addW (b : Int) : List Sl → Int
  | [] => b
  | x :: r => addW (wrap64 (b + (x.2.1 : Int))) r
theorem addW_snoc (x : Sl) : ∀ (l : List Sl) (b : Int), addW b (l ++ [x]) = wrap64 (addW b l + (x.2.1 : Int)) := by
  intro l
  induction l with
  | nil => intro b; rfl
  | cons y r ih => intro b; simp only [List.cons_append, addW, ih]

set_option maxHeartbeats 1600000 in
set_option maxRecDepth 100000 in
theorem add_calls {w : World} {g h n : Nat} {b : Int} {ls : List Sl} {m : Nat} (hg : w.heap[g]? = some (.cells #[.int .i64 b, .int .i64 (n : Int)] 86 (0, 0))) (hh : w.heap[h]? = some (.cells (ls.map slV).toArray 25 (0, 0))) (hm : ls.length = m) (hm2 : m ≤ 1000) (hn : n ≤ 9223372036854775806) :
    Calls Tryz.prog 44 #[.pointer (some ⟨g, 0, none⟩), .slice (some ⟨h, 0, none⟩) m m] w fun e w' => e = .returned (.tuple #[]) ∧ w'.heap[g]? = some (.cells #[.int .i64 (addW b ls), .int .i64 ((n : Int) + 1)] 86 (0, 0)) ∧ w.grownBy w' (some g) := by
  have hne : g ≠ h := by
    rintro rfl
    rw [hg] at hh
    simp at hh
  have e1 : w.cell? ⟨g, 1, none⟩ = some (.int .i64 (n : Int)) := (blk_cell hg 1).trans rfl
  have f1 := blk_frozen hg 1
  have w1 : wrap64 ((n : Int) + 1) = (n : Int) + 1 := by unfold wrap64; omega
  have HG := Lib.hid hg
  have HH := Lib.hid hh
  have HM := Lib.hid (And.intro hm hm2)
  clear hg hh hm hm2
  go_enter Tryz.func44, Tryz.ntmps44
  go_wp2
  have hk1 := (blk_set HG.out 1 (.int .i64 ((n : Int) + 1))).trans (show _ = some (Obj.cells #[.int .i64 b, .int .i64 ((n : Int) + 1)] 86 (0, 0)) from rfl)
  have HK1 := Lib.hid hk1
  clear hk1 e1 f1 w1
  go_loopg [4] m (fun k v4 wr => ∃ i : Nat, v4 = .int .i64 (i : Int) ∧ Hid (i ≤ m ∧ m ≤ i + k) ∧ Hid (wr.heap[g]? = some (.cells #[.int .i64 (addW b (ls.take i)), .int .i64 ((n : Int) + 1)] 86 (0, 0))) ∧ Hid (w.grownBy wr (some g)))
  case atStart => exact ⟨0, rfl, Lib.hid ⟨by omega, by omega⟩, HK1, Lib.hid (grown_set _ _ _ _)⟩
  case round =>
    obtain ⟨i, rfl, hi, HC, HW⟩ := hrel
    by_cases hlt : i < m
    · have HLT := Lib.hid hlt
      have hhr := (HW.out.block h (blk_lt HH.out) (fun e => hne (by injection e with e; exact e.symm))).trans HH.out
      have hil : i < ls.length := by rw [HM.out.1]; exact hlt
      obtain ⟨x, hx⟩ : ∃ x, ls[i]? = some x := ⟨_, List.getElem?_eq_getElem hil⟩
      have htk : ls.take (i + 1) = ls.take i ++ [x] := by rw [List.take_add_one, hx]; rfl
      have hxc : (ls.map slV).toArray[i]? = some (slV x) := by rw [List.getElem?_toArray, List.getElem?_map, hx]; rfl
      have HT : Hid (addW b (ls.take (i + 1)) = wrap64 (addW b (ls.take i) + (x.2.1 : Int))) := Lib.hid (by rw [htk, addW_snoc])
      obtain ⟨K, kn, kc⟩ := x
      have q0 : wr.cell? ⟨h, i, none⟩ = some (.slice K kn kc) := (blk_cell hhr i).trans hxc
      have w1 : wrap64 ((i : Int) + 1) = (i : Int) + 1 := by have := HM.out.2; unfold wrap64; omega
      have z0 : decide ((i : Int) < (m : Int)) = true := decide_eq_true (by omega)
      generalize addW b (ls.take i) = bi at *
      obtain ⟨b2, hb2⟩ : ∃ b2, wrap64 (bi + (kn : Int)) = b2 := ⟨_, rfl⟩
      have hw1 : IntKind.i64.wrap (bi + (kn : Int)) = b2 := by rw [IntKind.wrap_i64, ← hb2]; unfold wrap64; omega
      have HT2 : Hid (addW b (ls.take (i + 1)) = b2) := Lib.hid (HT.out.trans hb2)
      clear HT hb2
      clear hx htk hxc hil hhr
      go_wp2
      refine still_tail 12 (by kernel_rfl) (by kernel_rfl) ?_
      intro W3 hW3
      have k3 : W3.heap[g]? = _ := (congrArg (fun h => h[g]?) (show W3.heap = wr.heap by rw [hW3]; rfl)).trans HC.out
      have y2 : W3.cell? ⟨h, i, none⟩ = some (.slice K kn kc) := by rw [hW3]; exact q0
      have g3 : Hid (w.grownBy W3 (some g)) := by rw [hW3]; exact Lib.hid ⟨HW.out.os, HW.out.tape, HW.out.output, HW.out.size, HW.out.block⟩
      clear hW3
      have y0 : W3.cell? ⟨g, 0, none⟩ = some (.int .i64 bi) := (blk_cell k3 0).trans rfl
      have y1 := blk_frozen k3 0
      have K3 := Lib.hid k3
      clear k3 q0
      simp only [List.take_succ_cons, List.take_zero, List.drop_succ_cons, List.drop_zero]
      repeat still_step
      refine wpStill_nil ?_
      go_wp2
      go_roundg (gk - 1)
      case measure => have := hi.out; have := HLT.out; omega
      case rel => exact ⟨i + 1, (by first | rfl | exact congrArg _ w1), Lib.hid (by have := hi.out; have := HLT.out; omega), Lib.hid ((blk_set K3.out 0 _).trans (by rw [HT2.out]; rfl)), Lib.hid (g3.out.trans (grown_set _ _ _ _))⟩
    · have hin : i = m := by have := hi.out; omega
      subst hin
      have hk := HC.out
      rw [← HM.out.1, List.take_length] at hk
      have z0 : decide ((i : Int) < (i : Int)) = false := decide_eq_false (by omega)
      go_wp2
      go_end0
      exact ⟨rfl, hk, HW.out⟩

end Go.Proofs.YtdkkkikcigjlhaaGreatDoor.Md

namespace Go.Proofs.YtdkkkikcigjlhaaGreatDoor.Md
abbrev muLink : Go.Conc.Locks.MuLink := { lock := 108, unlock := 117, ilock := 124, iunlock := 126, lockSlow := 128, unlockSlow := 129, disable := 107, enable := 111, acquire := 112, relMerge := 114, cas32 := 127, add32 := 125, tMutex := 180, tIMutex := 178, tPMutex := 234, tPIMutex := 267, tPI32 := 261, tUP := 233, tNoCopy := 175, tU32 := 176 }
theorem muLib : Go.Conc.Locks.MuLib Tryz.prog muLink :=
  ⟨Tryz.func108, Tryz.func117, Tryz.func124, Tryz.func126, Tryz.func107, Tryz.func111, Tryz.func112, Tryz.func114, Tryz.func127, Tryz.func125, Tryz.underlying178, Tryz.runUnderlying178, Tryz.sizeOf178, Tryz.isAgg178, Tryz.zeroValue178, Tryz.underlying180, Tryz.runUnderlying180, Tryz.sizeOf180, Tryz.isAgg180, Tryz.zeroValue180, Tryz.underlying234, Tryz.runUnderlying234, Tryz.sizeOf234, Tryz.isAgg234, Tryz.zeroValue234, Tryz.underlying267, Tryz.runUnderlying267, Tryz.sizeOf267, Tryz.isAgg267, Tryz.zeroValue267, Tryz.underlying261, Tryz.runUnderlying261, Tryz.sizeOf261, Tryz.isAgg261, Tryz.zeroValue261, Tryz.underlying233, Tryz.runUnderlying233, Tryz.sizeOf233, Tryz.isAgg233, Tryz.zeroValue233, Tryz.underlying175, Tryz.runUnderlying175, Tryz.sizeOf175, Tryz.isAgg175, Tryz.zeroValue175, Tryz.underlying21, Tryz.runUnderlying21, Tryz.sizeOf21, Tryz.isAgg21, Tryz.zeroValue21, (by kernel_rfl)⟩
abbrev rwLink : Go.Conc.Locks.RwLink := { lock := 108, unlock := 117, ilock := 124, iunlock := 126, lockSlow := 128, unlockSlow := 129, disable := 107, enable := 111, acquire := 112, relMerge := 114, cas32 := 127, add32 := 125, tMutex := 180, tIMutex := 178, tPMutex := 234, tPIMutex := 267, tPI32 := 261, tUP := 233, tNoCopy := 175, tU32 := 176, rlock := 91, runlock := 92, wlock := 87, wunlock := 88, i32add := 109, raceRead := 106, release := 113, rUnlockSlow := 120, semacqR := 119, semacqW := 110, semrel := 116, sfatal := 115, tRW := 185, tPRW := 231, tAI32 := 183, tPAI32 := 259, tPU32 := 237, tANoCopy := 181 }
theorem rwCore : Go.Conc.Locks.RwCore Tryz.prog rwLink :=
  ⟨Tryz.func109, Tryz.func106, Tryz.func107, Tryz.func111, Tryz.func112, Tryz.func114, Tryz.func125, Tryz.underlying185, Tryz.runUnderlying185, Tryz.sizeOf185, Tryz.isAgg185, Tryz.zeroValue185, Tryz.underlying183, Tryz.runUnderlying183, Tryz.sizeOf183, Tryz.isAgg183, Tryz.zeroValue183, Tryz.underlying231, Tryz.runUnderlying231, Tryz.sizeOf231, Tryz.isAgg231, Tryz.zeroValue231, Tryz.underlying259, Tryz.runUnderlying259, Tryz.sizeOf259, Tryz.isAgg259, Tryz.zeroValue259, Tryz.underlying237, Tryz.runUnderlying237, Tryz.sizeOf237, Tryz.isAgg237, Tryz.zeroValue237, Tryz.underlying181, Tryz.runUnderlying181, Tryz.sizeOf181, Tryz.isAgg181, Tryz.zeroValue181, Tryz.underlying176, Tryz.runUnderlying176, Tryz.sizeOf176, Tryz.isAgg176, Tryz.zeroValue176, Tryz.underlying180, Tryz.runUnderlying180, Tryz.sizeOf180, Tryz.isAgg180, Tryz.zeroValue180, Tryz.underlying234, Tryz.runUnderlying234, Tryz.sizeOf234, Tryz.isAgg234, Tryz.zeroValue234, Tryz.underlying261, Tryz.runUnderlying261, Tryz.sizeOf261, Tryz.isAgg261, Tryz.zeroValue261, Tryz.underlying233, Tryz.runUnderlying233, Tryz.sizeOf233, Tryz.isAgg233, Tryz.zeroValue233, Tryz.underlying21, Tryz.runUnderlying21, Tryz.sizeOf21, Tryz.isAgg21, Tryz.zeroValue21, (by kernel_rfl), (by kernel_rfl)⟩
theorem rwRLib : Go.Conc.Locks.RwRLib Tryz.prog rwLink := ⟨rwCore, Tryz.func91, Tryz.func92⟩
theorem rwWLib : Go.Conc.Locks.RwWLib Tryz.prog rwLink := ⟨rwCore, muLib, Tryz.func87, Tryz.func88, Tryz.func113, Tryz.underlying3, Tryz.runUnderlying3, Tryz.sizeOf3, Tryz.isAgg3, Tryz.zeroValue3⟩
end Go.Proofs.YtdkkkikcigjlhaaGreatDoor.Md

namespace Go.Proofs.YtdkkkikcigjlhaaGreatDoor.Md
open Go.RowKit Go.Proofs.YtdkkkikcigjlhaaGreatDoor.Con Go.Proofs.YtdkkkikcigjlhaaGreatDoor.Run Go.Proofs.YtdkkkikcigjlhaaGreatDoorW.PrintWords Go.Proofs.YtdkkkikcigjlhaaGreatDoorW.PrintMore Go.Proofs.YtdkkkikcigjlhaaGreatDoor.Cmp

structure Cs (cs : Array Value) (V : Value) (r : Nat) (l0 l4 : Int) (vk vn : Value) (q : Nat → Int) (mh n sz : Int) : Prop where
  size : cs.size = 25
  c0 : cs[0]? = some V
  c1 : cs[1]? = some (.pointer (some ⟨r, 0, none⟩))
  c2 : cs[2]? = some (.int .i32 l0)
  c4 : cs[4]? = some (.int .u32 0)
  c5 : cs[5]? = some (.int .u32 0)
  c6 : cs[6]? = some (.int .i32 l4)
  c8 : cs[8]? = some vk
  c9 : cs[9]? = some vn
  cq : ∀ i, i < 12 → cs[10 + i]? = some (.int .i64 (q i))
  c22 : cs[22]? = some (.int .i64 mh)
  c23 : cs[23]? = some (.int .i64 n)
  c24 : cs[24]? = some (.int .i64 sz)

theorem set_ne {cs : Array Value} {i j : Nat} (h : i ≠ j) (v : Value) : (cs.setIfInBounds i v)[j]? = cs[j]? := Array.getElem?_setIfInBounds_ne h
theorem set_eq {cs : Array Value} {i : Nat} (h : i < cs.size) (v : Value) : (cs.setIfInBounds i v)[i]? = some v := by simp [h]

section
variable {cs : Array Value} {V : Value} {r : Nat} {l0 l4 : Int} {vk vn : Value} {q : Nat → Int} {mh n sz : Int}

theorem Cs.setq (h : Cs cs V r l0 l4 vk vn q mh n sz) {i : Nat} (hi : i < 12) (v : Int) : Cs (cs.setIfInBounds (10 + i) (.int .i64 v)) V r l0 l4 vk vn (fun j => if j = i then v else q j) mh n sz := by
  have hs := h.size
  refine ⟨by simpa using hs, (set_ne (by omega) _).trans h.c0, (set_ne (by omega) _).trans h.c1, (set_ne (by omega) _).trans h.c2, (set_ne (by omega) _).trans h.c4, (set_ne (by omega) _).trans h.c5, (set_ne (by omega) _).trans h.c6, (set_ne (by omega) _).trans h.c8, (set_ne (by omega) _).trans h.c9, fun j hj => ?_, (set_ne (by omega) _).trans h.c22, (set_ne (by omega) _).trans h.c23, (set_ne (by omega) _).trans h.c24⟩
  by_cases e : j = i
  · subst e
    rw [if_pos rfl]
    exact set_eq (by omega) _
  · rw [if_neg e]
    exact (set_ne (by omega) _).trans (h.cq j hj)

theorem Cs.set2 (h : Cs cs V r l0 l4 vk vn q mh n sz) (v : Int) : Cs (cs.setIfInBounds 2 (.int .i32 v)) V r v l4 vk vn q mh n sz := by
  have hs := h.size
  exact ⟨by simpa using hs, (set_ne (by omega) _).trans h.c0, (set_ne (by omega) _).trans h.c1, set_eq (by omega) _, (set_ne (by omega) _).trans h.c4, (set_ne (by omega) _).trans h.c5, (set_ne (by omega) _).trans h.c6, (set_ne (by omega) _).trans h.c8, (set_ne (by omega) _).trans h.c9, fun j hj => (set_ne (by omega) _).trans (h.cq j hj), (set_ne (by omega) _).trans h.c22, (set_ne (by omega) _).trans h.c23, (set_ne (by omega) _).trans h.c24⟩

theorem Cs.set6 (h : Cs cs V r l0 l4 vk vn q mh n sz) (v : Int) : Cs (cs.setIfInBounds 6 (.int .i32 v)) V r l0 v vk vn q mh n sz := by
  have hs := h.size
  exact ⟨by simpa using hs, (set_ne (by omega) _).trans h.c0, (set_ne (by omega) _).trans h.c1, (set_ne (by omega) _).trans h.c2, (set_ne (by omega) _).trans h.c4, (set_ne (by omega) _).trans h.c5, set_eq (by omega) _, (set_ne (by omega) _).trans h.c8, (set_ne (by omega) _).trans h.c9, fun j hj => (set_ne (by omega) _).trans (h.cq j hj), (set_ne (by omega) _).trans h.c22, (set_ne (by omega) _).trans h.c23, (set_ne (by omega) _).trans h.c24⟩

theorem Cs.set8 (h : Cs cs V r l0 l4 vk vn q mh n sz) (v : Value) : Cs (cs.setIfInBounds 8 v) V r l0 l4 v vn q mh n sz := by
  have hs := h.size
  exact ⟨by simpa using hs, (set_ne (by omega) _).trans h.c0, (set_ne (by omega) _).trans h.c1, (set_ne (by omega) _).trans h.c2, (set_ne (by omega) _).trans h.c4, (set_ne (by omega) _).trans h.c5, (set_ne (by omega) _).trans h.c6, set_eq (by omega) _, (set_ne (by omega) _).trans h.c9, fun j hj => (set_ne (by omega) _).trans (h.cq j hj), (set_ne (by omega) _).trans h.c22, (set_ne (by omega) _).trans h.c23, (set_ne (by omega) _).trans h.c24⟩

theorem Cs.set9 (h : Cs cs V r l0 l4 vk vn q mh n sz) (v : Value) : Cs (cs.setIfInBounds 9 v) V r l0 l4 vk v q mh n sz := by
  have hs := h.size
  exact ⟨by simpa using hs, (set_ne (by omega) _).trans h.c0, (set_ne (by omega) _).trans h.c1, (set_ne (by omega) _).trans h.c2, (set_ne (by omega) _).trans h.c4, (set_ne (by omega) _).trans h.c5, (set_ne (by omega) _).trans h.c6, (set_ne (by omega) _).trans h.c8, set_eq (by omega) _, fun j hj => (set_ne (by omega) _).trans (h.cq j hj), (set_ne (by omega) _).trans h.c22, (set_ne (by omega) _).trans h.c23, (set_ne (by omega) _).trans h.c24⟩

theorem Cs.set22 (h : Cs cs V r l0 l4 vk vn q mh n sz) (v : Int) : Cs (cs.setIfInBounds 22 (.int .i64 v)) V r l0 l4 vk vn q v n sz := by
  have hs := h.size
  exact ⟨by simpa using hs, (set_ne (by omega) _).trans h.c0, (set_ne (by omega) _).trans h.c1, (set_ne (by omega) _).trans h.c2, (set_ne (by omega) _).trans h.c4, (set_ne (by omega) _).trans h.c5, (set_ne (by omega) _).trans h.c6, (set_ne (by omega) _).trans h.c8, (set_ne (by omega) _).trans h.c9, fun j hj => (set_ne (by omega) _).trans (h.cq j hj), set_eq (by omega) _, (set_ne (by omega) _).trans h.c23, (set_ne (by omega) _).trans h.c24⟩

theorem Cs.set23 (h : Cs cs V r l0 l4 vk vn q mh n sz) (v : Int) : Cs (cs.setIfInBounds 23 (.int .i64 v)) V r l0 l4 vk vn q mh v sz := by
  have hs := h.size
  exact ⟨by simpa using hs, (set_ne (by omega) _).trans h.c0, (set_ne (by omega) _).trans h.c1, (set_ne (by omega) _).trans h.c2, (set_ne (by omega) _).trans h.c4, (set_ne (by omega) _).trans h.c5, (set_ne (by omega) _).trans h.c6, (set_ne (by omega) _).trans h.c8, (set_ne (by omega) _).trans h.c9, fun j hj => (set_ne (by omega) _).trans (h.cq j hj), (set_ne (by omega) _).trans h.c22, set_eq (by omega) _, (set_ne (by omega) _).trans h.c24⟩

theorem Cs.set24 (h : Cs cs V r l0 l4 vk vn q mh n sz) (v : Int) : Cs (cs.setIfInBounds 24 (.int .i64 v)) V r l0 l4 vk vn q mh n v := by
  have hs := h.size
  exact ⟨by simpa using hs, (set_ne (by omega) _).trans h.c0, (set_ne (by omega) _).trans h.c1, (set_ne (by omega) _).trans h.c2, (set_ne (by omega) _).trans h.c4, (set_ne (by omega) _).trans h.c5, (set_ne (by omega) _).trans h.c6, (set_ne (by omega) _).trans h.c8, (set_ne (by omega) _).trans h.c9, fun j hj => (set_ne (by omega) _).trans (h.cq j hj), (set_ne (by omega) _).trans h.c22, (set_ne (by omega) _).trans h.c23, set_eq (by omega) _⟩
end

structure Tab (W : World) (base p : Nat) (cs : Array Value) (vk vn : Value) (kv nd : List Int) : Prop where
  cell : W.heap[p]? = some (.cells cs 188 (0, 0))
  kv : W.ownsRow base 5 1 vk kv.length (nums .u8 kv)
  nd : W.ownsRow base 3 1 vn nd.length (nums .i64 nd)
  at_ : base ≤ p

theorem Tab.below {W W1 : World} {base p : Nat} {cs : Array Value} {vk vn : Value} {kv nd : List Int} (h : Tab W base p cs vk vn kv nd) (hb : Below W.heap.size W W1) : Tab W1 base p cs vk vn kv nd :=
  ⟨(hb.block p (blk_lt h.cell)).trans h.cell, pw_own_below h.kv hb, pw_own_below h.nd hb, h.at_⟩

theorem Tab.set {W : World} {base p : Nat} {cs : Array Value} {vk vn : Value} {kv nd : List Int} (h : Tab W base p cs vk vn kv nd) (i : Nat) (u : Value) : Tab (W.setCell ⟨p, i, none⟩ u) base p (cs.setIfInBounds i u) vk vn kv nd :=
  ⟨blk_set h.cell i u, own_setCell (p := ⟨p, i, none⟩) h.kv (own_ne h.kv h.cell (by decide)) u, own_setCell (p := ⟨p, i, none⟩) h.nd (own_ne h.nd h.cell (by decide)) u, h.at_⟩

theorem Tab.num {W : World} {base p g c : Nat} {cs : Array Value} {vk : Value} {kv nd : List Int} (h : Tab W base p cs vk (.slice (some ⟨g, 0, none⟩) nd.length c) kv nd) {i : Nat} (hi : i < nd.length) : W.cell? ⟨g, i, none⟩ = some (.int .i64 (G nd i)) := by
  obtain ⟨g', c', hv, _, hc⟩ := own_cell h.nd (by omega)
  injection hv with e1 _ _
  injection e1 with e1
  injection e1 with e1
  subst e1
  refine hc i _ ?_
  simp [nums, G, List.getD_eq_getElem?_getD, hi]

structure Cmpr (V : Value) (f : List Int → List Int → Int) : Prop where
  ord : Ord f
  make : ∃ T u K, V = .iface T u ∧ (∀ w, (nilAhead 418 T u "Compare").run Tryz.prog w = .ok (some false) w) ∧ (∀ w, (method 418 T u "Compare").run Tryz.prog w = .ok (K, u) w) ∧ (∀ (args : Array Value) (w : World), (callFunc K args).run Tryz.prog w = .ok (.enter K args) w) ∧
    ∀ (w : World) (A B : Option Addr) (n c m d : Nat) (l k : List Int), Kd.C (Kd.int .u8) w A n l → Kd.C (Kd.int .u8) w B m k → Byt l → Byt k →
      Calls Tryz.prog K #[u, .slice A n c, .slice B m d] w fun e w' => e = .returned (.int .i64 (f l k)) ∧ Below w.heap.size w w'

theorem cmpr_falling : Cmpr (.iface 155 (.agg #[])) (cmpO 1) :=
  ⟨⟨cmpO_three 1, cmpO_swap 1, fun _ _ => cmpO_zero, cmpO_trans 1⟩, 155, .agg #[], 178, rfl, fun w => by kernel_rfl, fun w => by kernel_rfl, fun args w => Go.MuLone.run_callFunc_enter Tryz.func178 (by kernel_rfl) rfl args w,
    fun w A B n c m d l k h g hl hk => falling_Compare h g hl hk⟩

theorem cmpr_shorter : Cmpr (.iface 156 (.agg #[])) (cmpO 2) :=
  ⟨⟨cmpO_three 2, cmpO_swap 2, fun _ _ => cmpO_zero, cmpO_trans 2⟩, 156, .agg #[], 184, rfl, fun w => by kernel_rfl, fun w => by kernel_rfl, fun args w => Go.MuLone.run_callFunc_enter Tryz.func184 (by kernel_rfl) rfl args w,
    fun w A B n c m d l k h g hl hk => shorter_Compare h g hl hk⟩

theorem cmpr_bytes : Cmpr (.iface 157 (.agg #[])) (cmpO 0) :=
  ⟨⟨cmpO_three 0, cmpO_swap 0, fun _ _ => cmpO_zero, cmpO_trans 0⟩, 157, .agg #[], 188, rfl, fun w => by kernel_rfl, fun w => by kernel_rfl, fun args w => Go.MuLone.run_callFunc_enter Tryz.func188 (by kernel_rfl) rfl args w,
    fun w A B n c m d l k h g hl hk => bytesComparer_Compare h g hl hk⟩

end Go.Proofs.YtdkkkikcigjlhaaGreatDoor.Md

namespace Go.Proofs.YtdkkkikcigjlhaaGreatDoor.Md
open Go.RowKit Go.Proofs.YtdkkkikcigjlhaaGreatDoor.Con Go.Proofs.YtdkkkikcigjlhaaGreatDoor.Run Go.Proofs.YtdkkkikcigjlhaaGreatDoorW.PrintWords Go.Proofs.YtdkkkikcigjlhaaGreatDoorW.PrintMore Go.Proofs.YtdkkkikcigjlhaaGreatDoor.Cmp

theorem rd_G (l : List Int) (i : Nat) : rd l (i : Int) = G l i := by simp [rd, G]

theorem Tab.at {W : World} {base p c : Nat} {N : Option Addr} {cs : Array Value} {vk : Value} {kv nd : List Int} (h : Tab W base p cs vk (.slice N nd.length c) kv nd) {i : Nat} (hi : i < nd.length) : ∃ ad, N = some ad ∧ W.cell? (ad.add i) = some (.int .i64 (G nd i)) := by
  obtain ⟨ad, e, hc⟩ := Kd.at_int (ints_C (own_reads' h.nd)) (i : Int) (Int.natCast_nonneg _) (by omega)
  rw [rd_G, Int.toNat_natCast] at hc
  exact ⟨ad, e, hc⟩

theorem Tab.at' {W : World} {base p c : Nat} {N : Option Addr} {cs : Array Value} {vk : Value} {kv nd : List Int} (h : Tab W base p cs vk (.slice N nd.length c) kv nd) {i : Nat} (hi : i < nd.length) : ∃ ad, N = some ad ∧ W.cell? ⟨ad.block, ad.off + i, none⟩ = some (.int .i64 (G nd i)) := by
  obtain ⟨g', c', hv, _, hc⟩ := own_cell h.nd (by omega)
  injection hv with e1 _ _
  refine ⟨⟨g', 0, none⟩, e1, ?_⟩
  have := hc i (.int .i64 (G nd i)) (by simp [nums, G, List.getD_eq_getElem?_getD, hi])
  simpa using this

set_option maxHeartbeats 1600000 in
set_option maxRecDepth 100000 in
theorem Last_calls {w : World} {base p r mh c : Nat} {cs : Array Value} {V vk : Value} {N : Option Addr} {l0 l4 n sz : Int} {q : Nat → Int} {kv nd : List Int} {ns : List Node} (hT : Tab w base p cs vk (.slice N nd.length c) kv nd) (hC : Cs cs V r l0 l4 vk (.slice N nd.length c) q (mh : Int) n sz) (hS : Skip nd kv mh ns) (hl : nd.length ≤ 1099511627776) :
    Calls Tryz.prog 177 #[.pointer (some ⟨p, 0, none⟩)] w fun e w' => e = .returned (.int .i64 ((prv 0 ns : Nat) : Int)) ∧ w = w' := by
  have c9 : w.cell? ⟨p, 9, none⟩ = some (.slice N nd.length c) := (blk_cell hT.cell 9).trans hC.c9
  have c22 : w.cell? ⟨p, 22, none⟩ = some (.int .i64 (mh : Int)) := (blk_cell hT.cell 22).trans hC.c22
  have HT := Lib.hid hT
  have HS := Lib.hid hS
  have HL := Lib.hid hl
  clear hT hC hS hl
  have w1 : wrap64 ((mh : Int) - 1) = ((mh - 1 : Nat) : Int) := by
    have := HS.out.m1; have := HS.out.m12
    unfold wrap64; omega
  go_enter Tryz.func177, Tryz.ntmps177
  go_wp2
  go_loopg [3, 4] (12 * (ns.length + 1) + ns.length) (fun k v3 v4 w' => ∃ (A B : List Node) (i a : Nat), v3 = .int .i64 (a : Int) ∧ v4 = .int .i64 (i : Int) ∧ w = w' ∧ Hid (a = prv i A ∧ ns = A ++ B ∧ i < 12 ∧ i * (ns.length + 1) + B.length ≤ k))
  case atStart =>
    refine ⟨[], ns, mh - 1, 0, rfl, congrArg _ w1, rfl, Lib.hid ⟨rfl, rfl, by have := HS.out.m12; have := HS.out.m1; omega, ?_⟩⟩
    have h1 : (mh - 1) * (ns.length + 1) ≤ 12 * (ns.length + 1) := Nat.mul_le_mul_right _ (by have := HS.out.m12; omega)
    omega
  case round =>
    obtain ⟨A, B, i, a, rfl, rfl, rfl, HI⟩ := hrel
    have hi := HI.out.2.2.1
    have hslot := HS.out.slot HI.out.2.1 hi
    rw [← HI.out.1] at hslot
    have hle := HL.out
    obtain ⟨ad, hN, hx⟩ := HT.out.at hslot
    have hv : G nd (a + 4 + i) = ((nxt i B : Nat) : Int) := by rw [HI.out.1]; exact HS.out.links A B HI.out.2.1 i hi
    rw [hv] at hx
    subst hN
    have a1 : wrap64 ((a : Int) + 4) = (a : Int) + 4 := by unfold wrap64; omega
    have a2 : wrap64 ((a : Int) + 4 + (i : Int)) = (a : Int) + 4 + (i : Int) := by unfold wrap64; omega
    have hlt : (a : Int) + 4 + (i : Int) < (nd.length : Int) := by omega
    have h0 : (0 : Int) ≤ (a : Int) + 4 + (i : Int) := by omega
    have e0 : ((a : Int) + 4 + (i : Int)).toNat = a + 4 + i := by omega
    clear hv hle hslot
    generalize hnx : nxt i B = x at *
    have HX := Lib.hid hnx
    clear hnx
    go_upto_region 4 with (fail)
    by_cases hx0 : x = 0
    · have z1 : ((x : Int) == 0) = true := by rw [beq_iff_eq]; omega
      have HX0 := Lib.hid hx0
      clear hx0
      by_cases hi0 : i = 0
      · have z2 : ((i : Int) == 0) = true := by rw [beq_iff_eq]; omega
        have HI0 := Lib.hid hi0
        clear hi0
        go_wp2
        go_ret
        have h1 := HI.out.1
        have h2 := HI.out.2.1
        have h3 : ∀ y ∈ B, y.h ≤ 0 := by
          rcases low_or_high 0 B with g | g
          · exact g
          · obtain ⟨_, _, _, _, _, y, hy, q⟩ := step_on (A := A) (R := []) g
            rw [List.append_nil, ← HI0.out, HX.out, HX0.out] at q
            have := (HS.out.ok y (by rw [h2]; exact List.mem_append_right _ hy)).a
            omega
        refine ⟨ret_int ?_, rfl⟩
        rw [h1, h2, HI0.out, prv_low 0 A B h3]
      · have z2 : ((i : Int) == 0) = false := by rw [beq_eq_false_iff_ne]; omega
        have HI0 := Lib.hid hi0
        clear hi0
        go_wp2
        go_roundg ((i - 1) * (ns.length + 1) + ns.length)
        case measure => exact down_less HI0.out HI.out.2.2.2
        case rel =>
          have h2 := HI.out.2.1
          have h3 : ∀ y ∈ B, y.h ≤ i := by
            rcases low_or_high i B with g | g
            · exact g
            · obtain ⟨_, _, _, _, _, y, hy, q⟩ := step_on (A := A) (R := []) g
              rw [List.append_nil, HX.out, HX0.out] at q
              have := (HS.out.ok y (by rw [h2]; exact List.mem_append_right _ hy)).a
              omega
          obtain ⟨A', B', g1, g2, _, g4⟩ := step_down (A := A) h3
          refine ⟨A', B', i - 1, a, rfl, ?_, rfl, Lib.hid ⟨by rw [g2]; exact HI.out.1, by rw [h2]; exact g1, by omega, ?_⟩⟩
          · have := HI0.out
            have e : wrap64 ((i : Int) - 1) = ((i - 1 : Nat) : Int) := by unfold wrap64; omega
            first | exact congrArg _ e | go_num | (simp [e]; omega)
          · rw [h2]; omega
    · have z1 : ((x : Int) == 0) = false := by rw [beq_eq_false_iff_ne]; omega
      have HX0 := Lib.hid hx0
      clear hx0
      have hB : ∃ y ∈ B, i < y.h := by
        rcases low_or_high i B with g | g
        · exact absurd (HX.out.symm.trans (nxt_none i B g)) HX0.out
        · exact g
      have HB := Lib.hid hB
      clear hB
      go_wp2
      obtain ⟨A', B', g1, g2, g3, _⟩ := step_on (A := A) (R := []) HB.out
      rw [List.append_nil, HX.out] at g2
      go_roundg (i * (ns.length + 1) + (B.length - 1))
      case measure => have := HI.out.2.2.2; omega
      case rel => exact ⟨A', B', i, x, rfl, rfl, rfl, Lib.hid ⟨g2.symm, HI.out.2.1.trans g1, hi, by omega⟩⟩

end Go.Proofs.YtdkkkikcigjlhaaGreatDoor.Md

namespace Go.Proofs.YtdkkkikcigjlhaaGreatDoor.Md
open Go.RowKit Go.Proofs.YtdkkkikcigjlhaaGreatDoor.Con Go.Proofs.YtdkkkikcigjlhaaGreatDoor.Run Go.Proofs.YtdkkkikcigjlhaaGreatDoorW.PrintWords Go.Proofs.YtdkkkikcigjlhaaGreatDoorW.PrintMore Go.Proofs.YtdkkkikcigjlhaaGreatDoor.Cmp Go.Sort

theorem key_cut {nd kv : List Int} {mh c : Nat} {x : Node} {Kx : Option Addr} (hx : NodeOk nd kv mh x) (hc : kv.length ≤ c) : ∃ (o : Nat) (A : Option Addr) (c' : Nat), G nd x.a = (o : Int) ∧ o + x.key.length ≤ kv.length ∧ (∀ W : World, (Instr.slice 25 (.slice Kx kv.length c) (some (.int .i64 (o : Int))) (some (.int .i64 ((o : Int) + (x.key.length : Int)))) none).run Tryz.prog W = .ok (.slice A x.key.length c') W) ∧
    ∀ W, Kd.C (Kd.int .u8) W Kx kv.length kv → Kd.C (Kd.int .u8) W A x.key.length x.key := by
  obtain ⟨i0, hi, hzz⟩ := Option.map_eq_some_iff.1 info_u8
  simp only [Prod.mk.injEq] at hzz
  obtain ⟨o, h1, h2, h3, h4⟩ := hx.cell
  obtain ⟨A, g1, g2, g3⟩ := print_mid_int (P := Tryz.prog) (k := .u8) 25 5 Tryz.underlying25 hi hzz.2.1 Kx c kv (o : Int) ((o : Int) + (x.key.length : Int)) (Int.natCast_nonneg _) (by omega) (by omega) hc
  have e1 : ((o : Int) + (x.key.length : Int)).toNat = o + x.key.length := by omega
  have e2 : (kv.take ((o : Int) + (x.key.length : Int)).toNat).drop ((o : Int)).toNat = x.key := by
    rw [e1, Int.toNat_natCast, List.drop_take, Nat.add_sub_cancel_left]
    exact h3
  rw [e2] at g1 g2 g3
  exact ⟨o, A, _, h1, by omega, g1, fun W hW => ints_C (g2 W (C_ints hW))⟩

def Seen (f : List Int → List Int → Int) (key : List Int) (A B R : List Node) (i x : Nat) (cv : Int) : Prop :=
  (cv < 0 ∧ ∃ A' B', A ++ B = A' ++ B' ∧ prv i A' = x ∧ B'.length + 1 ≤ B.length) ∨ (0 ≤ cv ∧ (∀ y ∈ B, y.h ≤ i) ∧ x = nxt i R ∧ (cv = 0 ↔ ∃ y ∈ R, x = y.a ∧ f y.key key = 0))

theorem seen_none {f : List Int → List Int → Int} {key : List Int} {A B R : List Node} {i : Nat} (h : nxt i (B ++ R) = 0) (ha : ∀ y ∈ B ++ R, 16 ≤ y.a) : Seen f key A B R i 0 1 := by
  rcases low_or_high i B with g | g
  · rw [nxt_app i B R g] at h
    refine .inr ⟨by decide, g, h.symm, fun e => by omega, fun ⟨y, hy, e, _⟩ => ?_⟩
    have := ha y (List.mem_append_right _ hy)
    omega
  · obtain ⟨_, _, _, _, _, y, hy, q⟩ := step_on (A := A) (R := R) g
    have := ha y (List.mem_append_left _ hy)
    omega

theorem seen_some {f : List Int → List Int → Int} {key : List Int} {A B R : List Node} {i x : Nat} (h : nxt i (B ++ R) = x) (hx : ¬ x = 0) (hB : ∀ y ∈ B, f y.key key < 0) (hR : ∀ y ∈ R, 0 ≤ f y.key key) (hap : (B ++ R).Pairwise Apart) (h1 : ∀ y ∈ B ++ R, 1 ≤ y.h) : ∃ y ∈ B ++ R, y.a = x ∧ Seen f key A B R i x (f y.key key) := by
  rcases low_or_high i B with g | g
  · rw [nxt_app i B R g] at h
    rcases nxt_is i R with q | ⟨y, hy, _, q⟩
    · exact absurd (h.symm.trans q) hx
    · refine ⟨y, List.mem_append_right _ hy, q.symm.trans h, .inr ⟨hR y hy, g, h.symm, fun e => ⟨y, hy, h.symm.trans q, e⟩, fun ⟨z, hz, e, e0⟩ => ?_⟩⟩
      rcases pair_ne hap (List.mem_append_right _ hy) (List.mem_append_right _ hz) with rfl | v | v
      · exact e0
      · have := h1 y (List.mem_append_right _ hy); omega
      · have := h1 z (List.mem_append_right _ hz); omega
  · obtain ⟨A', B', g1, g2, g3, y, hy, g4⟩ := step_on (A := A) (R := R) g
    exact ⟨y, List.mem_append_left _ hy, g4.symm.trans h, .inl ⟨hB y hy, A', B', g1, g2.trans h, g3⟩⟩

theorem grown_below {w w' : World} (hb : Below w.heap.size w w') (row : Option Nat) : w.grownBy w' row := ⟨hb.os, hb.tape, hb.output, hb.size, fun k hk _ => hb.block k hk⟩

theorem C_grown {w w' : World} {p n : Nat} {A : Option Addr} {l : List Int} (h : Kd.C (Kd.int .u8) w A n l) (hg : w.grownBy w' (some p)) (hne : 0 < n → ∀ a, A = some a → a.block ≠ p) : Kd.C (Kd.int .u8) w' A n l := by
  obtain ⟨h1, h2, h3⟩ := C_ints h
  refine ints_C ⟨h1, h2, fun hn => ?_⟩
  obtain ⟨a, ha, hc⟩ := h3 hn
  refine ⟨a, ha, fun j hj => hg.cell (hc j hj) ?_⟩
  have e : (a.add j).block = a.block := by unfold Addr.add; split <;> rfl
  rw [e]
  intro q
  injection q with q
  exact hne hn a ha q

def GeTold (w : World) (base p mh : Nat) (vk vn V : Value) (r : Nat) (l0 l4 n sz : Int) (q : Nat → Int) (kv nd key : List Int) (P R : List Node) (f : List Int → List Int → Int) (e : Ending) (w' : World) : Prop :=
  ∃ ex : Bool, e = .returned (.tuple #[.int .i64 ((nxt 0 R : Nat) : Int), .bool ex]) ∧ (ex = true ↔ ∃ x R', R = x :: R' ∧ f x.key key = 0) ∧ w.grownBy w' (some p) ∧
    ∃ cs' q', Tab w' base p cs' vk vn kv nd ∧ Cs cs' V r l0 l4 vk vn q' (mh : Int) n sz ∧ (∀ i, i < mh → q' i = ((prv i P : Nat) : Int)) ∧ ∀ i, mh ≤ i → q' i = q i

set_option maxHeartbeats 1600000 in
set_option maxRecDepth 100000 in
theorem GE_calls {w : World} {base p r mh c ck ca : Nat} {cs : Array Value} {V : Value} {N Kx A0 : Option Addr} {l0 l4 n sz : Int} {q : Nat → Int} {kv nd key : List Int} {ns P R : List Node} {f : List Int → List Int → Int}
    (hT : Tab w base p cs (.slice Kx kv.length ck) (.slice N nd.length c) kv nd) (hC : Cs cs V r l0 l4 (.slice Kx kv.length ck) (.slice N nd.length c) q (mh : Int) n sz) (hS : Skip nd kv mh ns) (hl : nd.length ≤ 1099511627776) (hkl : kv.length ≤ 1099511627776) (hck : kv.length ≤ ck)
    (hV : Cmpr V f) (hns : ns = P ++ R) (hP : ∀ x ∈ P, f x.key key < 0) (hR : ∀ x ∈ R, 0 ≤ f x.key key) (hs : Sorted f R) (hbk : Byt key) (hbv : ∀ x ∈ ns, Byt x.key)
    (hA : Kd.C (Kd.int .u8) w A0 key.length key) (hne : 0 < key.length → ∀ a, A0 = some a → a.block ≠ p) :
    Calls Tryz.prog 89 #[.pointer (some ⟨p, 0, none⟩), .slice A0 key.length ca, .bool true] w fun e w' => GeTold w base p mh (.slice Kx kv.length ck) (.slice N nd.length c) V r l0 l4 n sz q kv nd key P R f e w' := by
  have c22 : w.cell? ⟨p, 22, none⟩ = some (.int .i64 (mh : Int)) := (blk_cell hT.cell 22).trans hC.c22
  obtain ⟨T, u, K, rfl, hnil, hmeth, hcall, hcmp⟩ := hV.make
  have HT := Lib.hid hT
  have HC := Lib.hid hC
  have HS := Lib.hid hS
  have HL := Lib.hid (And.intro hl (And.intro hkl hck))
  have HV := Lib.hid hV
  have HP := Lib.hid (And.intro hns (And.intro hP (And.intro hR hs)))
  have HB := Lib.hid (And.intro hbk hbv)
  have HA := Lib.hid (And.intro hA hne)
  have HCMP := Lib.hid hcmp
  clear hT hC hS hl hkl hck hV hns hP hR hs hbk hbv hA hne hcmp
  have w1 : wrap64 ((mh : Int) - 1) = ((mh - 1 : Nat) : Int) := by
    have := HS.out.m1; have := HS.out.m12
    unfold wrap64; omega
  go_enter Tryz.func89, Tryz.ntmps89
  go_wp2
  go_loopg [8, 9] (12 * (ns.length + 1) + ns.length) (fun k v8 v9 w' => ∃ (A B : List Node) (i a : Nat) (cs' : Array Value) (q' : Nat → Int), v8 = .int .i64 (a : Int) ∧ v9 = .int .i64 (i : Int) ∧ Hid (a = prv i A ∧ P = A ++ B ∧ i < mh ∧ i * (ns.length + 1) + B.length ≤ k) ∧ Hid (w.grownBy w' (some p)) ∧ Hid (Tab w' base p cs' (.slice Kx kv.length ck) (.slice N nd.length c) kv nd) ∧ Hid (Cs cs' (.iface T u) r l0 l4 (.slice Kx kv.length ck) (.slice N nd.length c) q' (mh : Int) n sz) ∧ Hid ((∀ j, i < j → j < mh → q' j = ((prv j P : Nat) : Int)) ∧ ∀ j, mh ≤ j → q' j = q j))
  case atStart =>
    refine ⟨[], P, mh - 1, 0, cs, q, rfl, congrArg _ w1, Lib.hid ⟨rfl, rfl, by have := HS.out.m1; omega, ?_⟩, Lib.hid (World.grownBy.refl _ _), HT, HC, Lib.hid ⟨fun j _ _ => by omega, fun _ _ => rfl⟩⟩
    have h1 : (mh - 1) * (ns.length + 1) ≤ 12 * (ns.length + 1) := Nat.mul_le_mul_right _ (by have := HS.out.m12; omega)
    have h2 : P.length ≤ ns.length := by rw [HP.out.1, List.length_append]; omega
    omega
  case round =>
    obtain ⟨A, B, i, a, cs', q', rfl, rfl, HI, HG, HT', HC', HQ⟩ := hrel
    have hi := HI.out.2.2.1
    have hi12 : i < 12 := Nat.lt_of_lt_of_le hi HS.out.m12
    have hsp : ns = A ++ (B ++ R) := by rw [HP.out.1, HI.out.2.1, List.append_assoc]
    have hslot := HS.out.slot hsp hi12
    rw [← HI.out.1] at hslot
    obtain ⟨ad, hN, hx⟩ := HT'.out.at hslot
    have hv : G nd (a + 4 + i) = ((nxt i (B ++ R) : Nat) : Int) := by rw [HI.out.1]; exact HS.out.links A (B ++ R) hsp i hi12
    have d9 : wr.cell? ⟨p, 9, none⟩ = some (.slice N nd.length c) := (blk_cell HT'.out.cell 9).trans HC'.out.c9
    have d8 : wr.cell? ⟨p, 8, none⟩ = some (.slice Kx kv.length ck) := (blk_cell HT'.out.cell 8).trans HC'.out.c8
    have d0 : wr.cell? ⟨p, 0, none⟩ = some (.iface T u) := (blk_cell HT'.out.cell 0).trans HC'.out.c0
    rw [hv] at hx
    subst hN
    have hle := HL.out.1
    have a1 : wrap64 ((a : Int) + 4) = (a : Int) + 4 := by unfold wrap64; omega
    have a2 : wrap64 ((a : Int) + 4 + (i : Int)) = (a : Int) + 4 + (i : Int) := by unfold wrap64; omega
    have hlt : (a : Int) + 4 + (i : Int) < (nd.length : Int) := by omega
    have h0 : (0 : Int) ≤ (a : Int) + 4 + (i : Int) := by omega
    have e0 : ((a : Int) + 4 + (i : Int)).toNat = a + 4 + i := by omega
    have HSP := Lib.hid hsp
    clear hv hle hslot hsp hi12 c22 w1 HT HC
    generalize hnx : nxt i (B ++ R) = x at *
    have HX := Lib.hid hnx
    clear hnx
    go_upto_if 29 with (fail)
    go_cut [11] (fun v11 wc => ∃ cv : Int, v11 = .int .i64 cv ∧ Hid (Below wr.heap.size wr wc) ∧ Hid (Seen f key A B R i x cv))
    case first =>
      by_cases hx0 : x = 0
      · have z0 : ((x : Int) != 0) = false := by rw [bne_eq_false_iff_eq]; omega
        have HS0 : Hid (Seen f key A B R i x 1) := by
          have h := HX.out
          rw [hx0] at h ⊢
          exact seen_none h (fun y hy => (HS.out.ok y (by rw [HSP.out]; exact List.mem_append_right _ hy)).a)
        clear hx0
        go_wp2
        go_meet
        case rel => exact ⟨1, rfl, Lib.hid (Below.refl _ _), HS0⟩
      · obtain ⟨y, hy, hxy, hsn⟩ := seen_some (A := A) HX.out hx0 (fun y hy => HP.out.2.1 y (by rw [HI.out.2.1]; exact List.mem_append_right _ hy)) HP.out.2.2.1 (by have h := HS.out.apart; rw [HSP.out] at h; exact (List.pairwise_append.1 h).2.1) (fun y hy => (HS.out.ok y (by rw [HSP.out]; exact List.mem_append_right _ hy)).h1)
        have HSN := Lib.hid hsn
        have hym : y ∈ ns := by rw [HSP.out]; exact List.mem_append_right _ hy
        have hyo := HS.out.ok y hym
        have hye := hyo.end_
        have hy16 := hyo.a
        obtain ⟨o, Ay, cy, k1, k2, k3, k4⟩ := key_cut (Kx := Kx) hyo HL.out.2.2
        have x0 : wr.cell? (ad.add x) = some (.int .i64 (o : Int)) := by
          obtain ⟨ad', hN, h⟩ := HT'.out.at (i := x) (by omega)
          injection hN with hN
          rw [← hN, show G nd x = (o : Int) by rw [← hxy]; exact k1] at h
          exact h
        have x1 : wr.cell? ⟨ad.block, ad.off + (x + 1), none⟩ = some (.int .i64 (y.key.length : Int)) := by
          obtain ⟨ad', hN, h⟩ := HT'.out.at' (i := x + 1) (by omega)
          injection hN with hN
          rw [← hN, show G nd (x + 1) = (y.key.length : Int) by rw [← hxy]; exact hyo.kl] at h
          exact h
        have hle := HL.out
        have z0 : ((x : Int) != 0) = true := by rw [bne_iff_ne]; omega
        have b0 : (x : Int) < (nd.length : Int) := by omega
        have b1 : (x : Int) + 1 < (nd.length : Int) := by omega
        have b2 : (0 : Int) ≤ (x : Int) + 1 := by omega
        have b3 : ((x : Int) + 1).toNat = x + 1 := by omega
        have b4 : wrap64 ((x : Int) + 1) = (x : Int) + 1 := by unfold wrap64; omega
        have b5 : wrap64 ((o : Int) + (y.key.length : Int)) = (o : Int) + (y.key.length : Int) := by unfold wrap64; omega
        have BY := Lib.hid (HB.out.2 y hym)
        have HK : ∀ W, Below wr.heap.size wr W → Hid (Kd.C (Kd.int .u8) W Ay y.key.length y.key) := fun W hW => k4 W (ints_C (own_reads' (HT'.out.below hW).kv))
        have HA2 : ∀ W, Below wr.heap.size wr W → Hid (Kd.C (Kd.int .u8) W A0 key.length key) := fun W hW => C_grown HA.out.1 (HG.out.trans (grown_below hW _)) HA.out.2
        clear hx0 hym hyo hye hy16 hxy hle k4 k1 k2 hy hsn
        generalize y.key.length = kl at *
        go_upto_region 7 with (fail)
        have D0 := cell_regrown d0
        have D8 := cell_regrown d8
        have D9 := cell_regrown d9
        have X1 := cell_regrown x1
        have HW : ∀ d os, Hid (Below wr.heap.size wr (grow (redrawn wr d) os)) := fun d os => below_regrown wr d os
        refine wp_region_quiet_below (by kernel_rfl) (by kernel_rfl) ?_
        repeat (go_big_quiet_step (with_reducible refine Calls.regrown_of (HCMP.out _ _ _ _ _ _ _ _ _ (HK _ (HW _ _).out).out (HA2 _ (HW _ _).out).out BY.out HB.out.1)))
        refine wpQuiet_nil ?_
        intro _ hw'
        obtain ⟨⟨dq, osq⟩, hw''⟩ := hw'
        subst hw''
        have hbw := HW dq osq
        clear D0 D8 D9 X1 HW HK HA2
        generalize grow (redrawn wr dq) osq = W at *
        go_wp2
        go_meet
        case rel => exact ⟨_, rfl, hbw, HSN⟩
    case rest =>
      obtain ⟨cv, rfl, HBW, HSN⟩ := hcut
      have hT2 := HT'.out.below HBW.out
      have HG2 := Lib.hid (HG.out.trans (grown_below HBW.out (some p)))
      have HT2 := Lib.hid hT2
      clear hx d9 d8 d0 hT2 HG HT' hlt h0 e0 a1 a2
      rcases HSN.out with ⟨hneg, A', B', g1, g2, g3⟩ | ⟨hge, hlow, hxr, hz⟩
      · have z0 : decide (cv < 0) = true := decide_eq_true hneg
        have HX2 := Lib.hid (And.intro g1 (And.intro g2 g3))
        clear hneg g1 g2 g3 HSN
        go_wp2
        go_roundg (i * (ns.length + 1) + (B.length - 1))
        case measure => have := HI.out.2.2.2; have := HX2.out.2.2; omega
        case rel => exact ⟨A', B', i, x, cs', q', rfl, rfl, Lib.hid ⟨HX2.out.2.1.symm, HI.out.2.1.trans HX2.out.1, hi, by have := HX2.out.2.2; omega⟩, HG2, HT2, HC', HQ⟩
      · have z0 : decide (cv < 0) = false := decide_eq_false (by omega)
        have hi12 : i < 12 := Nat.lt_of_lt_of_le hi HS.out.m12
        have hT3 := HT2.out
        have e10 : wc.cell? ⟨p, 10 + i, none⟩ = some (.int .i64 (q' i)) := (blk_cell hT3.cell (10 + i)).trans (HC'.out.cq i hi12)
        have f10 : wc.frozen? ⟨p, 10 + i, none⟩ = false := blk_frozen hT3.cell (10 + i)
        have h12 : (i : Int) < 12 := by omega
        have hi0' : (0 : Int) ≤ (i : Int) := Int.natCast_nonneg _
        have ei : ((i : Int)).toNat = i := Int.toNat_natCast _
        have HD := Lib.hid (And.intro hge (And.intro hlow (And.intro hxr hz)))
        have HT4 := Lib.hid (hT3.set (10 + i) (.int .i64 (a : Int)))
        have HC4 := Lib.hid (HC'.out.setq hi12 (a : Int))
        have HG4 := Lib.hid (HG2.out.trans (grown_set wc p (10 + i) (.int .i64 (a : Int))))
        have HQ4 : Hid ((∀ j, i ≤ j → j < mh → (fun j => if j = i then (a : Int) else q' j) j = ((prv j P : Nat) : Int)) ∧ ∀ j, mh ≤ j → (fun j => if j = i then (a : Int) else q' j) j = q j) := Lib.hid ⟨fun j hj hjm => by
            by_cases e : j = i
            · subst e
              simp only [if_pos]
              rw [HI.out.1, HI.out.2.1, prv_low j A B hlow]
            · simp only [if_neg e]
              exact HQ.out.1 j (by omega) hjm, fun j hj => by
            have e : ¬ j = i := by omega
            simp only [if_neg e]
            exact HQ.out.2 j hj⟩
        clear hT3 hge hlow hxr hz hi12 HSN
        by_cases h0 : i = 0
        · have z2 : ((i : Int) == 0) = true := by rw [beq_iff_eq]; omega
          have HI0 := Lib.hid h0
          clear h0
          go_wp2
          go_ret2
          have hx0 := HD.out.2.2.1
          have hz := HD.out.2.2.2
          rw [HI0.out] at hx0
          refine ⟨(cv == 0), by rw [hx0]; rfl, ?_, HG4.out, _, _, HT4.out, HC4.out, fun j hj => HQ4.out.1 j (by have := HI0.out; omega) hj, HQ4.out.2⟩
          · rw [beq_iff_eq, hz]
            constructor
            · rintro ⟨y, hy, _, h0⟩
              obtain ⟨R', hR'⟩ := hit_first HV.out.ord HP.out.2.2.2 HP.out.2.2.1 hy h0
              exact ⟨y, R', hR', h0⟩
            · rintro ⟨y, R', hR', h0⟩
              have hym : y ∈ ns := by rw [HP.out.1, hR']; simp
              refine ⟨y, by rw [hR']; exact List.mem_cons_self, ?_, h0⟩
              rw [hx0, hR', nxt, if_pos (show 0 < y.h from (HS.out.ok y hym).h1)]
        · have z2 : ((i : Int) == 0) = false := by rw [beq_eq_false_iff_ne]; omega
          have HI0 := Lib.hid h0
          clear h0
          go_wp2
          go_roundg ((i - 1) * (ns.length + 1) + ns.length)
          case measure => exact down_less HI0.out HI.out.2.2.2
          case rel =>
            obtain ⟨A', B', g1, g2, _, g4⟩ := step_down (A := A) HD.out.2.1
            refine ⟨A', B', i - 1, a, _, _, rfl, ?_, Lib.hid ⟨by rw [g2]; exact HI.out.1, HI.out.2.1.trans g1, by omega, ?_⟩, HG4, HT4, HC4, Lib.hid ⟨fun j hj hjm => HQ4.out.1 j (by have := HI0.out; omega) hjm, HQ4.out.2⟩⟩
            · have := HI0.out
              have e : wrap64 ((i : Int) - 1) = ((i - 1 : Nat) : Int) := by unfold wrap64; omega
              first | exact congrArg _ e | go_num | (simp [e]; omega)
            · have h5 : (A ++ B).length ≤ ns.length := by
                have := congrArg List.length HP.out.1
                rw [HI.out.2.1, List.length_append] at this
                omega
              omega

end Go.Proofs.YtdkkkikcigjlhaaGreatDoor.Md
