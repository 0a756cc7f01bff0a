/- The laws' own bounds: bounds.add, within, fewPairs. The locks of this dump: their functions and types, by name. The memory table in memory: its cells, its two rows. The memory table: its last node. -/
import Derived.Test.YtdkkkikcigjlhaaGreatDoorMj10
import Derived.Test.YtdkkkikcigjlhaaGreatDoorProg
import Derived.Conc.RwLib
import Derived.Conc.MuData
import Derived.KernelRfl
import Derived.Conc.RwLoneW
import Derived.Deep.LoopGhost
set_option linter.unusedVariables false
set_option linter.unusedSimpArgs false
namespace Go.Proofs.YtdkkkikcigjlhaaGreatDoor.Md
open Go.RowKit Go.Proofs.YtdkkkikcigjlhaaGreatDoor.Con Go.Proofs.YtdkkkikcigjlhaaGreatDoor.Run Go.Proofs.YtdkkkikcigjlhaaGreatDoorW.PrintWords Go.Proofs.YtdkkkikcigjlhaaGreatDoorW.PrintMore Go.Proofs.YtdkkkikcigjlhaaGreatDoor.Cmp Go.Sort Go.Proofs.YtdkkkikcigjlhaaGreatDoor.PFnMemMap

theorem within_calls {w : World} {g : Nat} {b n : Int} (h : w.heap[g]? = some (.cells #[.int .i64 b, .int .i64 n] 86 (0, 0))) :
    Calls Tryz.prog 45 #[.pointer (some ⟨g, 0, none⟩)] w fun e w' => e = .returned (.bool (decide (b ≤ 1048576 ∧ n ≤ 4096))) ∧ w = w' := by
  have e0 : w.cell? ⟨g, 0, none⟩ = some (.int .i64 b) := (blk_cell h 0).trans rfl
  have e1 : w.cell? ⟨g, 1, none⟩ = some (.int .i64 n) := (blk_cell h 1).trans rfl
  by_cases hb : b ≤ 1048576
  · by_cases hn : n ≤ 4096
    · rw [decide_eq_true (⟨hb, hn⟩ : b ≤ 1048576 ∧ n ≤ 4096)]
      go_enter Tryz.func45, Tryz.ntmps45
      go_wp2
      go_ret
      exact ⟨rfl, rfl⟩
    · rw [decide_eq_false (fun q => hn q.2)]
      go_enter Tryz.func45, Tryz.ntmps45
      go_wp2
      go_ret
      exact ⟨rfl, rfl⟩
  · rw [decide_eq_false (fun q => hb q.1)]
    go_enter Tryz.func45, Tryz.ntmps45
    go_wp2
    go_ret
    exact ⟨rfl, rfl⟩

abbrev Sl := Option Addr × Nat × Nat
def slV (x : Sl) : Value := .slice x.1 x.2.1 x.2.2
def addW (b : Int) : List Sl → Int
  | [] => b
  | x :: r => addW (wrap64 (b + (x.2.1 : Int))) r
theorem addW_snoc (x : Sl) : ∀ (l : List Sl) (b : Int), addW b (l ++ [x]) = wrap64 (addW b l + (x.2.1 : Int)) := by
  intro l
  induction l with
  | nil => intro b; rfl
  | cons y r ih => intro b; simp only [List.cons_append, addW, ih]

set_option maxHeartbeats 1600000 in
set_option maxRecDepth 100000 in
theorem add_calls {w : World} {g h n : Nat} {b : Int} {ls : List Sl} {m : Nat} (hg : w.heap[g]? = some (.cells #[.int .i64 b, .int .i64 (n : Int)] 86 (0, 0))) (hh : w.heap[h]? = some (.cells (ls.map slV).toArray 25 (0, 0))) (hm : ls.length = m) (hm2 : m ≤ 1000) (hn : n ≤ 9223372036854775806) :
    Calls Tryz.prog 44 #[.pointer (some ⟨g, 0, none⟩), .slice (some ⟨h, 0, none⟩) m m] w fun e w' => e = .returned (.tuple #[]) ∧ w'.heap[g]? = some (.cells #[.int .i64 (addW b ls), .int .i64 ((n : Int) + 1)] 86 (0, 0)) ∧ w.grownBy w' (some g) := by
  have hne : g ≠ h := by
    rintro rfl
    rw [hg] at hh
    simp at hh
  have e1 : w.cell? ⟨g, 1, none⟩ = some (.int .i64 (n : Int)) := (blk_cell hg 1).trans rfl
  have f1 := blk_frozen hg 1
  have w1 : wrap64 ((n : Int) + 1) = (n : Int) + 1 := by unfold wrap64; omega
  have HG := Lib.hid hg
  have HH := Lib.hid hh
  have HM := Lib.hid (And.intro hm hm2)
  clear hg hh hm hm2
  go_enter Tryz.func44, Tryz.ntmps44
  go_wp2
  have hk1 := (blk_set HG.out 1 (.int .i64 ((n : Int) + 1))).trans (show _ = some (Obj.cells #[.int .i64 b, .int .i64 ((n : Int) + 1)] 86 (0, 0)) from rfl)
  have HK1 := Lib.hid hk1
  clear hk1 e1 f1 w1
  go_loopg [4] m (fun k v4 wr => ∃ i : Nat, v4 = .int .i64 (i : Int) ∧ Hid (i ≤ m ∧ m ≤ i + k) ∧ Hid (wr.heap[g]? = some (.cells #[.int .i64 (addW b (ls.take i)), .int .i64 ((n : Int) + 1)] 86 (0, 0))) ∧ Hid (w.grownBy wr (some g)))
  case atStart => exact ⟨0, rfl, Lib.hid ⟨by omega, by omega⟩, HK1, Lib.hid (grown_set _ _ _ _)⟩
  case round =>
    obtain ⟨i, rfl, hi, HC, HW⟩ := hrel
    by_cases hlt : i < m
    · have HLT := Lib.hid hlt
      have hhr := (HW.out.block h (blk_lt HH.out) (fun e => hne (by injection e with e; exact e.symm))).trans HH.out
      have hil : i < ls.length := by rw [HM.out.1]; exact hlt
      obtain ⟨x, hx⟩ : ∃ x, ls[i]? = some x := ⟨_, List.getElem?_eq_getElem hil⟩
      have htk : ls.take (i + 1) = ls.take i ++ [x] := by rw [List.take_add_one, hx]; rfl
      have hxc : (ls.map slV).toArray[i]? = some (slV x) := by rw [List.getElem?_toArray, List.getElem?_map, hx]; rfl
      have HT : Hid (addW b (ls.take (i + 1)) = wrap64 (addW b (ls.take i) + (x.2.1 : Int))) := Lib.hid (by rw [htk, addW_snoc])
      obtain ⟨K, kn, kc⟩ := x
      have q0 : wr.cell? ⟨h, i, none⟩ = some (.slice K kn kc) := (blk_cell hhr i).trans hxc
      have w1 : wrap64 ((i : Int) + 1) = (i : Int) + 1 := by have := HM.out.2; unfold wrap64; omega
      have z0 : decide ((i : Int) < (m : Int)) = true := decide_eq_true (by omega)
      generalize addW b (ls.take i) = bi at *
      obtain ⟨b2, hb2⟩ : ∃ b2, wrap64 (bi + (kn : Int)) = b2 := ⟨_, rfl⟩
      have hw1 : IntKind.i64.wrap (bi + (kn : Int)) = b2 := by rw [IntKind.wrap_i64, ← hb2]; unfold wrap64; omega
      have HT2 : Hid (addW b (ls.take (i + 1)) = b2) := Lib.hid (HT.out.trans hb2)
      clear HT hb2
      clear hx htk hxc hil hhr
      go_wp2
      refine still_tail 12 (by kernel_rfl) (by kernel_rfl) ?_
      intro W3 hW3
      have k3 : W3.heap[g]? = _ := (congrArg (fun h => h[g]?) (show W3.heap = wr.heap by rw [hW3]; rfl)).trans HC.out
      have y2 : W3.cell? ⟨h, i, none⟩ = some (.slice K kn kc) := by rw [hW3]; exact q0
      have g3 : Hid (w.grownBy W3 (some g)) := by rw [hW3]; exact Lib.hid ⟨HW.out.os, HW.out.tape, HW.out.output, HW.out.size, HW.out.block⟩
      clear hW3
      have y0 : W3.cell? ⟨g, 0, none⟩ = some (.int .i64 bi) := (blk_cell k3 0).trans rfl
      have y1 := blk_frozen k3 0
      have K3 := Lib.hid k3
      clear k3 q0
      simp only [List.take_succ_cons, List.take_zero, List.drop_succ_cons, List.drop_zero]
      repeat still_step
      refine wpStill_nil ?_
      go_wp2
      go_roundg (gk - 1)
      case measure => have := hi.out; have := HLT.out; omega
      case rel => exact ⟨i + 1, (by first | rfl | exact congrArg _ w1), Lib.hid (by have := hi.out; have := HLT.out; omega), Lib.hid ((blk_set K3.out 0 _).trans (by rw [HT2.out]; rfl)), Lib.hid (g3.out.trans (grown_set _ _ _ _))⟩
    · have hin : i = m := by have := hi.out; omega
      subst hin
      have hk := HC.out
      rw [← HM.out.1, List.take_length] at hk
      have z0 : decide ((i : Int) < (i : Int)) = false := decide_eq_false (by omega)
      go_wp2
      go_end0
      exact ⟨rfl, hk, HW.out⟩

end Go.Proofs.YtdkkkikcigjlhaaGreatDoor.Md

namespace Go.Proofs.YtdkkkikcigjlhaaGreatDoor.Md
abbrev muLink : Go.Conc.Locks.MuLink := { lock := 108, unlock := 117, ilock := 124, iunlock := 126, lockSlow := 128, unlockSlow := 129, disable := 107, enable := 111, acquire := 112, relMerge := 114, cas32 := 127, add32 := 125, tMutex := 180, tIMutex := 178, tPMutex := 234, tPIMutex := 267, tPI32 := 261, tUP := 233, tNoCopy := 175, tU32 := 176 }
theorem muLib : Go.Conc.Locks.MuLib Tryz.prog muLink :=
  ⟨Tryz.func108, Tryz.func117, Tryz.func124, Tryz.func126, Tryz.func107, Tryz.func111, Tryz.func112, Tryz.func114, Tryz.func127, Tryz.func125, Tryz.underlying178, Tryz.runUnderlying178, Tryz.sizeOf178, Tryz.isAgg178, Tryz.zeroValue178, Tryz.underlying180, Tryz.runUnderlying180, Tryz.sizeOf180, Tryz.isAgg180, Tryz.zeroValue180, Tryz.underlying234, Tryz.runUnderlying234, Tryz.sizeOf234, Tryz.isAgg234, Tryz.zeroValue234, Tryz.underlying267, Tryz.runUnderlying267, Tryz.sizeOf267, Tryz.isAgg267, Tryz.zeroValue267, Tryz.underlying261, Tryz.runUnderlying261, Tryz.sizeOf261, Tryz.isAgg261, Tryz.zeroValue261, Tryz.underlying233, Tryz.runUnderlying233, Tryz.sizeOf233, Tryz.isAgg233, Tryz.zeroValue233, Tryz.underlying175, Tryz.runUnderlying175, Tryz.sizeOf175, Tryz.isAgg175, Tryz.zeroValue175, Tryz.underlying21, Tryz.runUnderlying21, Tryz.sizeOf21, Tryz.isAgg21, Tryz.zeroValue21, (by kernel_rfl)⟩
abbrev rwLink : Go.Conc.Locks.RwLink := { lock := 108, unlock := 117, ilock := 124, iunlock := 126, lockSlow := 128, unlockSlow := 129, disable := 107, enable := 111, acquire := 112, relMerge := 114, cas32 := 127, add32 := 125, tMutex := 180, tIMutex := 178, tPMutex := 234, tPIMutex := 267, tPI32 := 261, tUP := 233, tNoCopy := 175, tU32 := 176, rlock := 91, runlock := 92, wlock := 87, wunlock := 88, i32add := 109, raceRead := 106, release := 113, rUnlockSlow := 120, semacqR := 119, semacqW := 110, semrel := 116, sfatal := 115, tRW := 185, tPRW := 231, tAI32 := 183, tPAI32 := 259, tPU32 := 237, tANoCopy := 181 }
theorem rwCore : Go.Conc.Locks.RwCore Tryz.prog rwLink :=
  ⟨Tryz.func109, Tryz.func106, Tryz.func107, Tryz.func111, Tryz.func112, Tryz.func114, Tryz.func125, Tryz.underlying185, Tryz.runUnderlying185, Tryz.sizeOf185, Tryz.isAgg185, Tryz.zeroValue185, Tryz.underlying183, Tryz.runUnderlying183, Tryz.sizeOf183, Tryz.isAgg183, Tryz.zeroValue183, Tryz.underlying231, Tryz.runUnderlying231, Tryz.sizeOf231, Tryz.isAgg231, Tryz.zeroValue231, Tryz.underlying259, Tryz.runUnderlying259, Tryz.sizeOf259, Tryz.isAgg259, Tryz.zeroValue259, Tryz.underlying237, Tryz.runUnderlying237, Tryz.sizeOf237, Tryz.isAgg237, Tryz.zeroValue237, Tryz.underlying181, Tryz.runUnderlying181, Tryz.sizeOf181, Tryz.isAgg181, Tryz.zeroValue181, Tryz.underlying176, Tryz.runUnderlying176, Tryz.sizeOf176, Tryz.isAgg176, Tryz.zeroValue176, Tryz.underlying180, Tryz.runUnderlying180, Tryz.sizeOf180, Tryz.isAgg180, Tryz.zeroValue180, Tryz.underlying234, Tryz.runUnderlying234, Tryz.sizeOf234, Tryz.isAgg234, Tryz.zeroValue234, Tryz.underlying261, Tryz.runUnderlying261, Tryz.sizeOf261, Tryz.isAgg261, Tryz.zeroValue261, Tryz.underlying233, Tryz.runUnderlying233, Tryz.sizeOf233, Tryz.isAgg233, Tryz.zeroValue233, Tryz.underlying21, Tryz.runUnderlying21, Tryz.sizeOf21, Tryz.isAgg21, Tryz.zeroValue21, (by kernel_rfl), (by kernel_rfl)⟩
theorem rwRLib : Go.Conc.Locks.RwRLib Tryz.prog rwLink := ⟨rwCore, Tryz.func91, Tryz.func92⟩
theorem rwWLib : Go.Conc.Locks.RwWLib Tryz.prog rwLink := ⟨rwCore, muLib, Tryz.func87, Tryz.func88, Tryz.func113, Tryz.underlying3, Tryz.runUnderlying3, Tryz.sizeOf3, Tryz.isAgg3, Tryz.zeroValue3⟩
end Go.Proofs.YtdkkkikcigjlhaaGreatDoor.Md

namespace Go.Proofs.YtdkkkikcigjlhaaGreatDoor.Md
open Go.RowKit Go.Proofs.YtdkkkikcigjlhaaGreatDoor.Con Go.Proofs.YtdkkkikcigjlhaaGreatDoor.Run Go.Proofs.YtdkkkikcigjlhaaGreatDoorW.PrintWords Go.Proofs.YtdkkkikcigjlhaaGreatDoorW.PrintMore Go.Proofs.YtdkkkikcigjlhaaGreatDoor.Cmp

structure Cs (cs : Array Value) (V : Value) (r : Nat) (l0 l4 : Int) (vk vn : Value) (q : Nat → Int) (mh n sz : Int) : Prop where
  size : cs.size = 25
  c0 : cs[0]? = some V
  c1 : cs[1]? = some (.pointer (some ⟨r, 0, none⟩))
  c2 : cs[2]? = some (.int .i32 l0)
  c4 : cs[4]? = some (.int .u32 0)
  c5 : cs[5]? = some (.int .u32 0)
  c6 : cs[6]? = some (.int .i32 l4)
  c8 : cs[8]? = some vk
  c9 : cs[9]? = some vn
  cq : ∀ i, i < 12 → cs[10 + i]? = some (.int .i64 (q i))
  c22 : cs[22]? = some (.int .i64 mh)
  c23 : cs[23]? = some (.int .i64 n)
  c24 : cs[24]? = some (.int .i64 sz)

theorem set_ne {cs : Array Value} {i j : Nat} (h : i ≠ j) (v : Value) : (cs.setIfInBounds i v)[j]? = cs[j]? := Array.getElem?_setIfInBounds_ne h
theorem set_eq {cs : Array Value} {i : Nat} (h : i < cs.size) (v : Value) : (cs.setIfInBounds i v)[i]? = some v := by simp [h]

section
variable {cs : Array Value} {V : Value} {r : Nat} {l0 l4 : Int} {vk vn : Value} {q : Nat → Int} {mh n sz : Int}

theorem Cs.setq (h : Cs cs V r l0 l4 vk vn q mh n sz) {i : Nat} (hi : i < 12) (v : Int) : Cs (cs.setIfInBounds (10 + i) (.int .i64 v)) V r l0 l4 vk vn (fun j => if j = i then v else q j) mh n sz := by
  have hs := h.size
  refine ⟨by simpa using hs, (set_ne (by omega) _).trans h.c0, (set_ne (by omega) _).trans h.c1, (set_ne (by omega) _).trans h.c2, (set_ne (by omega) _).trans h.c4, (set_ne (by omega) _).trans h.c5, (set_ne (by omega) _).trans h.c6, (set_ne (by omega) _).trans h.c8, (set_ne (by omega) _).trans h.c9, fun j hj => ?_, (set_ne (by omega) _).trans h.c22, (set_ne (by omega) _).trans h.c23, (set_ne (by omega) _).trans h.c24⟩
  by_cases e : j = i
  · subst e
    rw [if_pos rfl]
    exact set_eq (by omega) _
  · rw [if_neg e]
    exact (set_ne (by omega) _).trans (h.cq j hj)

theorem Cs.set2 (h : Cs cs V r l0 l4 vk vn q mh n sz) (v : Int) : Cs (cs.setIfInBounds 2 (.int .i32 v)) V r v l4 vk vn q mh n sz := by
  have hs := h.size
  exact ⟨by simpa using hs, (set_ne (by omega) _).trans h.c0, (set_ne (by omega) _).trans h.c1, set_eq (by omega) _, (set_ne (by omega) _).trans h.c4, (set_ne (by omega) _).trans h.c5, (set_ne (by omega) _).trans h.c6, (set_ne (by omega) _).trans h.c8, (set_ne (by omega) _).trans h.c9, fun j hj => (set_ne (by omega) _).trans (h.cq j hj), (set_ne (by omega) _).trans h.c22, (set_ne (by omega) _).trans h.c23, (set_ne (by omega) _).trans h.c24⟩

theorem Cs.set6 (h : Cs cs V r l0 l4 vk vn q mh n sz) (v : Int) : Cs (cs.setIfInBounds 6 (.int .i32 v)) V r l0 v vk vn q mh n sz := by
  have hs := h.size
  exact ⟨by simpa using hs, (set_ne (by omega) _).trans h.c0, (set_ne (by omega) _).trans h.c1, (set_ne (by omega) _).trans h.c2, (set_ne (by omega) _).trans h.c4, (set_ne (by omega) _).trans h.c5, set_eq (by omega) _, (set_ne (by omega) _).trans h.c8, (set_ne (by omega) _).trans h.c9, fun j hj => (set_ne (by omega) _).trans (h.cq j hj), (set_ne (by omega) _).trans h.c22, (set_ne (by omega) _).trans h.c23, (set_ne (by omega) _).trans h.c24⟩

theorem Cs.set8 (h : Cs cs V r l0 l4 vk vn q mh n sz) (v : Value) : Cs (cs.setIfInBounds 8 v) V r l0 l4 v vn q mh n sz := by
  have hs := h.size
  exact ⟨by simpa using hs, (set_ne (by omega) _).trans h.c0, (set_ne (by omega) _).trans h.c1, (set_ne (by omega) _).trans h.c2, (set_ne (by omega) _).trans h.c4, (set_ne (by omega) _).trans h.c5, (set_ne (by omega) _).trans h.c6, set_eq (by omega) _, (set_ne (by omega) _).trans h.c9, fun j hj => (set_ne (by omega) _).trans (h.cq j hj), (set_ne (by omega) _).trans h.c22, (set_ne (by omega) _).trans h.c23, (set_ne (by omega) _).trans h.c24⟩

theorem Cs.set9 (h : Cs cs V r l0 l4 vk vn q mh n sz) (v : Value) : Cs (cs.setIfInBounds 9 v) V r l0 l4 vk v q mh n sz := by
  have hs := h.size
  exact ⟨by simpa using hs, (set_ne (by omega) _).trans h.c0, (set_ne (by omega) _).trans h.c1, (set_ne (by omega) _).trans h.c2, (set_ne (by omega) _).trans h.c4, (set_ne (by omega) _).trans h.c5, (set_ne (by omega) _).trans h.c6, (set_ne (by omega) _).trans h.c8, set_eq (by omega) _, fun j hj => (set_ne (by omega) _).trans (h.cq j hj), (set_ne (by omega) _).trans h.c22, (set_ne (by omega) _).trans h.c23, (set_ne (by omega) _).trans h.c24⟩

theorem Cs.set22 (h : Cs cs V r l0 l4 vk vn q mh n sz) (v : Int) : Cs (cs.setIfInBounds 22 (.int .i64 v)) V r l0 l4 vk vn q v n sz := by
  have hs := h.size
  exact ⟨by simpa using hs, (set_ne (by omega) _).trans h.c0, (set_ne (by omega) _).trans h.c1, (set_ne (by omega) _).trans h.c2, (set_ne (by omega) _).trans h.c4, (set_ne (by omega) _).trans h.c5, (set_ne (by omega) _).trans h.c6, (set_ne (by omega) _).trans h.c8, (set_ne (by omega) _).trans h.c9, fun j hj => (set_ne (by omega) _).trans (h.cq j hj), set_eq (by omega) _, (set_ne (by omega) _).trans h.c23, (set_ne (by omega) _).trans h.c24⟩

theorem Cs.set23 (h : Cs cs V r l0 l4 vk vn q mh n sz) (v : Int) : Cs (cs.setIfInBounds 23 (.int .i64 v)) V r l0 l4 vk vn q mh v sz := by
  have hs := h.size
  exact ⟨by simpa using hs, (set_ne (by omega) _).trans h.c0, (set_ne (by omega) _).trans h.c1, (set_ne (by omega) _).trans h.c2, (set_ne (by omega) _).trans h.c4, (set_ne (by omega) _).trans h.c5, (set_ne (by omega) _).trans h.c6, (set_ne (by omega) _).trans h.c8, (set_ne (by omega) _).trans h.c9, fun j hj => (set_ne (by omega) _).trans (h.cq j hj), (set_ne (by omega) _).trans h.c22, set_eq (by omega) _, (set_ne (by omega) _).trans h.c24⟩

theorem Cs.set24 (h : Cs cs V r l0 l4 vk vn q mh n sz) (v : Int) : Cs (cs.setIfInBounds 24 (.int .i64 v)) V r l0 l4 vk vn q mh n v := by
  have hs := h.size
  exact ⟨by simpa using hs, (set_ne (by omega) _).trans h.c0, (set_ne (by omega) _).trans h.c1, (set_ne (by omega) _).trans h.c2, (set_ne (by omega) _).trans h.c4, (set_ne (by omega) _).trans h.c5, (set_ne (by omega) _).trans h.c6, (set_ne (by omega) _).trans h.c8, (set_ne (by omega) _).trans h.c9, fun j hj => (set_ne (by omega) _).trans (h.cq j hj), (set_ne (by omega) _).trans h.c22, (set_ne (by omega) _).trans h.c23, set_eq (by omega) _⟩
end

structure Tab (W : World) (base p : Nat) (cs : Array Value) (vk vn : Value) (kv nd : List Int) : Prop where
  cell : W.heap[p]? = some (.cells cs 188 (0, 0))
  kv : W.ownsRow base 5 1 vk kv.length (nums .u8 kv)
  nd : W.ownsRow base 3 1 vn nd.length (nums .i64 nd)
  at_ : base ≤ p

theorem Tab.below {W W1 : World} {base p : Nat} {cs : Array Value} {vk vn : Value} {kv nd : List Int} (h : Tab W base p cs vk vn kv nd) (hb : Below W.heap.size W W1) : Tab W1 base p cs vk vn kv nd :=
  ⟨(hb.block p (blk_lt h.cell)).trans h.cell, pw_own_below h.kv hb, pw_own_below h.nd hb, h.at_⟩

theorem Tab.set {W : World} {base p : Nat} {cs : Array Value} {vk vn : Value} {kv nd : List Int} (h : Tab W base p cs vk vn kv nd) (i : Nat) (u : Value) : Tab (W.setCell ⟨p, i, none⟩ u) base p (cs.setIfInBounds i u) vk vn kv nd :=
  ⟨blk_set h.cell i u, own_setCell (p := ⟨p, i, none⟩) h.kv (own_ne h.kv h.cell (by decide)) u, own_setCell (p := ⟨p, i, none⟩) h.nd (own_ne h.nd h.cell (by decide)) u, h.at_⟩

theorem Tab.num {W : World} {base p g c : Nat} {cs : Array Value} {vk : Value} {kv nd : List Int} (h : Tab W base p cs vk (.slice (some ⟨g, 0, none⟩) nd.length c) kv nd) {i : Nat} (hi : i < nd.length) : W.cell? ⟨g, i, none⟩ = some (.int .i64 (G nd i)) := by
  obtain ⟨g', c', hv, _, hc⟩ := own_cell h.nd (by omega)
  injection hv with e1 _ _
  injection e1 with e1
  injection e1 with e1
  subst e1
  refine hc i _ ?_
  simp [nums, G, List.getD_eq_getElem?_getD, hi]

structure Cmpr (V : Value) (f : List Int → List Int → Int) : Prop where
  ord : Ord f
  make : ∃ T u K, V = .iface T u ∧ (∀ w, (nilAhead 418 T u "Compare").run Tryz.prog w = .ok (some false) w) ∧ (∀ w, (method 418 T u "Compare").run Tryz.prog w = .ok (K, u) w) ∧ (∀ (args : Array Value) (w : World), (callFunc K args).run Tryz.prog w = .ok (.enter K args) w) ∧
    ∀ (w : World) (A B : Option Addr) (n c m d : Nat) (l k : List Int), Kd.C (Kd.int .u8) w A n l → Kd.C (Kd.int .u8) w B m k → Byt l → Byt k →
      Calls Tryz.prog K #[u, .slice A n c, .slice B m d] w fun e w' => e = .returned (.int .i64 (f l k)) ∧ Below w.heap.size w w'

theorem cmpr_falling : Cmpr (.iface 155 (.agg #[])) (cmpO 1) :=
  ⟨⟨cmpO_three 1, cmpO_swap 1, fun _ _ => cmpO_zero, cmpO_trans 1⟩, 155, .agg #[], 178, rfl, fun w => by kernel_rfl, fun w => by kernel_rfl, fun args w => Go.MuLone.run_callFunc_enter Tryz.func178 (by kernel_rfl) rfl args w,
    fun w A B n c m d l k h g hl hk => falling_Compare h g hl hk⟩

theorem cmpr_shorter : Cmpr (.iface 156 (.agg #[])) (cmpO 2) :=
  ⟨⟨cmpO_three 2, cmpO_swap 2, fun _ _ => cmpO_zero, cmpO_trans 2⟩, 156, .agg #[], 184, rfl, fun w => by kernel_rfl, fun w => by kernel_rfl, fun args w => Go.MuLone.run_callFunc_enter Tryz.func184 (by kernel_rfl) rfl args w,
    fun w A B n c m d l k h g hl hk => shorter_Compare h g hl hk⟩

theorem cmpr_bytes : Cmpr (.iface 157 (.agg #[])) (cmpO 0) :=
  ⟨⟨cmpO_three 0, cmpO_swap 0, fun _ _ => cmpO_zero, cmpO_trans 0⟩, 157, .agg #[], 188, rfl, fun w => by kernel_rfl, fun w => by kernel_rfl, fun args w => Go.MuLone.run_callFunc_enter Tryz.func188 (by kernel_rfl) rfl args w,
    fun w A B n c m d l k h g hl hk => bytesComparer_Compare h g hl hk⟩

theorem ord_cmpO (o : Int) : Ord (cmpO o) := ⟨cmpO_three o, cmpO_swap o, fun _ _ => cmpO_zero, cmpO_trans o⟩

end Go.Proofs.YtdkkkikcigjlhaaGreatDoor.Md

namespace Go.Proofs.YtdkkkikcigjlhaaGreatDoor.Md
open Go.RowKit Go.Proofs.YtdkkkikcigjlhaaGreatDoor.Con Go.Proofs.YtdkkkikcigjlhaaGreatDoor.Run Go.Proofs.YtdkkkikcigjlhaaGreatDoorW.PrintWords Go.Proofs.YtdkkkikcigjlhaaGreatDoorW.PrintMore Go.Proofs.YtdkkkikcigjlhaaGreatDoor.Cmp

theorem rd_G (l : List Int) (i : Nat) : rd l (i : Int) = G l i := by simp [rd, G]

theorem Tab.at {W : World} {base p c : Nat} {N : Option Addr} {cs : Array Value} {vk : Value} {kv nd : List Int} (h : Tab W base p cs vk (.slice N nd.length c) kv nd) {i : Nat} (hi : i < nd.length) : ∃ ad, N = some ad ∧ W.cell? (ad.add i) = some (.int .i64 (G nd i)) := by
  obtain ⟨ad, e, hc⟩ := Kd.at_int (ints_C (own_reads' h.nd)) (i : Int) (Int.natCast_nonneg _) (by omega)
  rw [rd_G, Int.toNat_natCast] at hc
  exact ⟨ad, e, hc⟩

theorem Tab.at' {W : World} {base p c : Nat} {N : Option Addr} {cs : Array Value} {vk : Value} {kv nd : List Int} (h : Tab W base p cs vk (.slice N nd.length c) kv nd) {i : Nat} (hi : i < nd.length) : ∃ ad, N = some ad ∧ W.cell? ⟨ad.block, ad.off + i, none⟩ = some (.int .i64 (G nd i)) := by
  obtain ⟨g', c', hv, _, hc⟩ := own_cell h.nd (by omega)
  injection hv with e1 _ _
  refine ⟨⟨g', 0, none⟩, e1, ?_⟩
  have := hc i (.int .i64 (G nd i)) (by simp [nums, G, List.getD_eq_getElem?_getD, hi])
  simpa using this

set_option maxHeartbeats 1600000 in
set_option maxRecDepth 100000 in
theorem Last_calls {w : World} {base p r mh c : Nat} {cs : Array Value} {V vk : Value} {N : Option Addr} {l0 l4 n sz : Int} {q : Nat → Int} {kv nd : List Int} {ns : List Node} (hT : Tab w base p cs vk (.slice N nd.length c) kv nd) (hC : Cs cs V r l0 l4 vk (.slice N nd.length c) q (mh : Int) n sz) (hS : Skip nd kv mh ns) (hl : nd.length ≤ 1099511627776) :
    Calls Tryz.prog 177 #[.pointer (some ⟨p, 0, none⟩)] w fun e w' => e = .returned (.int .i64 ((prv 0 ns : Nat) : Int)) ∧ w = w' := by
  have c9 : w.cell? ⟨p, 9, none⟩ = some (.slice N nd.length c) := (blk_cell hT.cell 9).trans hC.c9
  have c22 : w.cell? ⟨p, 22, none⟩ = some (.int .i64 (mh : Int)) := (blk_cell hT.cell 22).trans hC.c22
  have HT := Lib.hid hT
  have HS := Lib.hid hS
  have HL := Lib.hid hl
  clear hT hC hS hl
  have w1 : wrap64 ((mh : Int) - 1) = ((mh - 1 : Nat) : Int) := by
    have := HS.out.m1; have := HS.out.m12
    unfold wrap64; omega
  go_enter Tryz.func177, Tryz.ntmps177
  go_wp2
  go_loopg [3, 4] (12 * (ns.length + 1) + ns.length) (fun k v3 v4 w' => ∃ (A B : List Node) (i a : Nat), v3 = .int .i64 (a : Int) ∧ v4 = .int .i64 (i : Int) ∧ w = w' ∧ Hid (a = prv i A ∧ ns = A ++ B ∧ i < 12 ∧ i * (ns.length + 1) + B.length ≤ k))
  case atStart =>
    refine ⟨[], ns, mh - 1, 0, rfl, congrArg _ w1, rfl, Lib.hid ⟨rfl, rfl, by have := HS.out.m12; have := HS.out.m1; omega, ?_⟩⟩
    have h1 : (mh - 1) * (ns.length + 1) ≤ 12 * (ns.length + 1) := Nat.mul_le_mul_right _ (by have := HS.out.m12; omega)
    omega
  case round =>
    obtain ⟨A, B, i, a, rfl, rfl, rfl, HI⟩ := hrel
    have hi := HI.out.2.2.1
    have hslot := HS.out.slot HI.out.2.1 hi
    rw [← HI.out.1] at hslot
    have hle := HL.out
    obtain ⟨ad, hN, hx⟩ := HT.out.at hslot
    have hv : G nd (a + 4 + i) = ((nxt i B : Nat) : Int) := by rw [HI.out.1]; exact HS.out.links A B HI.out.2.1 i hi
    rw [hv] at hx
    subst hN
    have a1 : wrap64 ((a : Int) + 4) = (a : Int) + 4 := by unfold wrap64; omega
    have a2 : wrap64 ((a : Int) + 4 + (i : Int)) = (a : Int) + 4 + (i : Int) := by unfold wrap64; omega
    have hlt : (a : Int) + 4 + (i : Int) < (nd.length : Int) := by omega
    have h0 : (0 : Int) ≤ (a : Int) + 4 + (i : Int) := by omega
    have e0 : ((a : Int) + 4 + (i : Int)).toNat = a + 4 + i := by omega
    clear hv hle hslot
    generalize hnx : nxt i B = x at *
    have HX := Lib.hid hnx
    clear hnx
    go_upto_region 4 with (fail)
    by_cases hx0 : x = 0
    · have z1 : ((x : Int) == 0) = true := by rw [beq_iff_eq]; omega
      have HX0 := Lib.hid hx0
      clear hx0
      by_cases hi0 : i = 0
      · have z2 : ((i : Int) == 0) = true := by rw [beq_iff_eq]; omega
        have HI0 := Lib.hid hi0
        clear hi0
        go_wp2
        go_ret
        have h1 := HI.out.1
        have h2 := HI.out.2.1
        have h3 : ∀ y ∈ B, y.h ≤ 0 := by
          rcases low_or_high 0 B with g | g
          · exact g
          · obtain ⟨_, _, _, _, _, y, hy, q⟩ := step_on (A := A) (R := []) g
            rw [List.append_nil, ← HI0.out, HX.out, HX0.out] at q
            have := (HS.out.ok y (by rw [h2]; exact List.mem_append_right _ hy)).a
            omega
        refine ⟨ret_int ?_, rfl⟩
        rw [h1, h2, HI0.out, prv_low 0 A B h3]
      · have z2 : ((i : Int) == 0) = false := by rw [beq_eq_false_iff_ne]; omega
        have HI0 := Lib.hid hi0
        clear hi0
        go_wp2
        go_roundg ((i - 1) * (ns.length + 1) + ns.length)
        case measure => exact down_less HI0.out HI.out.2.2.2
        case rel =>
          have h2 := HI.out.2.1
          have h3 : ∀ y ∈ B, y.h ≤ i := by
            rcases low_or_high i B with g | g
            · exact g
            · obtain ⟨_, _, _, _, _, y, hy, q⟩ := step_on (A := A) (R := []) g
              rw [List.append_nil, HX.out, HX0.out] at q
              have := (HS.out.ok y (by rw [h2]; exact List.mem_append_right _ hy)).a
              omega
          obtain ⟨A', B', g1, g2, _, g4⟩ := step_down (A := A) h3
          refine ⟨A', B', i - 1, a, rfl, ?_, rfl, Lib.hid ⟨by rw [g2]; exact HI.out.1, by rw [h2]; exact g1, by omega, ?_⟩⟩
          · have := HI0.out
            have e : wrap64 ((i : Int) - 1) = ((i - 1 : Nat) : Int) := by unfold wrap64; omega
            first | exact congrArg _ e | go_num | (simp [e]; omega)
          · rw [h2]; omega
    · have z1 : ((x : Int) == 0) = false := by rw [beq_eq_false_iff_ne]; omega
      have HX0 := Lib.hid hx0
      clear hx0
      have hB : ∃ y ∈ B, i < y.h := by
        rcases low_or_high i B with g | g
        · exact absurd (HX.out.symm.trans (nxt_none i B g)) HX0.out
        · exact g
      have HB := Lib.hid hB
      clear hB
      go_wp2
      obtain ⟨A', B', g1, g2, g3, _⟩ := step_on (A := A) (R := []) HB.out
      rw [List.append_nil, HX.out] at g2
      go_roundg (i * (ns.length + 1) + (B.length - 1))
      case measure => have := HI.out.2.2.2; omega
      case rel => exact ⟨A', B', i, x, rfl, rfl, rfl, Lib.hid ⟨g2.symm, HI.out.2.1.trans g1, hi, by omega⟩⟩

end Go.Proofs.YtdkkkikcigjlhaaGreatDoor.Md
