/- The law FnMergedWalk: whatever the input, it answers true and its arguments read as they did. The row, out of the walk Go.Proofs.YtdkkkikcigjlhaaGreatDoor.Md.mergedWalk_row. -/
import Derived.Test.YtdkkkikcigjlhaaGreatDoorRows
import Derived.Test.YtdkkkikcigjlhaaGreatDoorMj44
import Derived.Test.YtdkkkikcigjlhaaGreatDoorMj32
import Derived.Test.YtdkkkikcigjlhaaGreatDoorCards
import Derived.Test.YtdkkkikcigjlhaaGreatDoorTie
import Derived.WalkKit
import Derived.ProofKit
import Derived.OpenShut
import Derived.ShutString
import Derived.ChangeOld
import Derived.Below
import Derived.SizedLaws
import Derived.Deep.DeepHandedRow
import Derived.LaidMore
import Derived.Lib.LaidTab
import Derived.Test.YtdkkkikcigjlhaaGreatDoorMj45
import Derived.Test.YtdkkkikcigjlhaaGreatDoorMj01
namespace Go.Proofs.YtdkkkikcigjlhaaGreatDoor.fnMergedWalk
open Go.ChangeShapes Go.WideShapes Go.ChangeAt Go.RowKit Go.Proofs.YtdkkkikcigjlhaaGreatDoorW.PrintWords Go.Proofs.YtdkkkikcigjlhaaGreatDoor.Open
theorem own : ownKnob Tryz.prog.godebug = none := by kernel_rfl
theorem laidOut : laidOutB Tryz.prog = true := by kernel_rfl
set_option maxRecDepth 100000 in
set_option maxHeartbeats 800000 in
theorem contract (H : Type) (enc : TypeId × Value → H) (W : World) (base : Nat) (args : Array Value) (ds gs : List (DataW H)) (before : List MemPlace)
    (hval0 : ∀ (j : Nat) t v, Tryz.f6.params[j]? = some t → args[j]? = some v → Value.okWide Tryz.prog W .any base t v)
    (hW : DataW.Whole enc Tryz.prog Tryz.f6.params.toList Rows.fnMergedWalkSpec.vars false W args.toList ds gs before)
    (hsz0 : (DataW.weightsEach Tryz.prog (Tryz.f6.params.toList ++ Rows.fnMergedWalkSpec.plain.varTypes Tryz.prog) (ds ++ gs)).all (· ≤ reachBytes) = true) :
    Calls Tryz.prog 6 args W fun e W' => ∃ v, e = .returned v ∧ Rows.fnMergedWalkSpec.post enc Tryz.prog Tryz.f6 false true false false W args v W' := by
  have hval : ∀ (j : Nat) t v, Tryz.f6.params[j]? = some t → args[j]? = some v → Value.okWide Tryz.prog W .any base t v := hval0
  have hsz := hsz0
  have hW' := hW
  obtain ⟨p, q, hA0, hV, rfl, hfz, hnd⟩ := hW
  have hA : DataW.TrodAll enc Tryz.prog W 0 (fun _ => true) true Tryz.f6.params.toList args.toList ds p := hA0
  rw [Tryz.params6] at hA hval hsz
  obtain ⟨v0, vs0, d0, ds0, p0, q0, hargs, rfl, rfl, h0, r0⟩ := trodAll_cons hA
  obtain ⟨v1, vs1, d1, ds1, p1, q1, rfl, rfl, rfl, h1, r1⟩ := trodAll_cons r0
  obtain ⟨v2, vs2, d2, ds2, p2, q2, rfl, rfl, rfl, h2, r2⟩ := trodAll_cons r1
  obtain ⟨rfl, rfl, rfl⟩ := trodAll_nil r2
  obtain rfl : args = #[v0, v1, v2] := by cases args; simp_all
  obtain ⟨rfl, rfl⟩ := trodVars_none hV
  obtain ⟨a0, rfl, rfl, rfl, w0⟩ := open_int Tryz.underlying3 (hval 0 3 v0 rfl rfl) h0
  obtain ⟨a1, len1, cap1, rfl⟩ := okWide_slice Tryz.underlying50 (hval 1 50 v1 rfl rfl)
  have k1 := h1
  have lt1 : ∀ x ∈ p1, x.block < W.heap.size := by obtain ⟨m, hm⟩ := k1; exact DataW.trod_lt m _ _ _ hm
  have z1 := k1
  obtain ⟨m1, hm1⟩ := z1
  obtain ⟨x1, K1, o1⟩ := (Go.Proofs.YtdkkkikcigjlhaaGreatDoor.Md.lls_opens.run) hm1
  replace K1 : (Go.Proofs.YtdkkkikcigjlhaaGreatDoor.Md.LLK).K W x1 [.slice a1 len1 cap1] := K1
  clear hm1
  obtain ⟨a2, len2, cap2, rfl⟩ := okWide_slice Tryz.underlying46 (hval 2 46 v2 rfl rfl)
  have k2 := h2
  have lt2 : ∀ x ∈ p2, x.block < W.heap.size := by obtain ⟨m, hm⟩ := k2; exact DataW.trod_lt m _ _ _ hm
  have z2 := k2
  obtain ⟨m2, hm2⟩ := z2
  obtain ⟨x2, K2, o2⟩ := (Go.Proofs.YtdkkkikcigjlhaaGreatDoor.Md.mvs_opens.run) hm2
  replace K2 : (Go.Proofs.YtdkkkikcigjlhaaGreatDoor.Md.MvsK).K W x2 [.slice a2 len2 cap2] := K2
  clear hm2
  clear hA0 hval0 hsz0 hsz
  refine (Go.Proofs.YtdkkkikcigjlhaaGreatDoor.Md.mergedWalk_row a0 a1 len1 cap1 x1 a2 len2 cap2 x2 W w0 K1 o1 K2 o2).mono fun e W' ⟨he, bel⟩ => ?_
  subst he
  exact ⟨_, rfl, _, _, _, [], _, [], hW', trodAll_mk1 (shut_bool Tryz.underlying4 _), (trodAll_cons_mk (shut_int Tryz.underlying3 w0) (trodAll_cons_mk (Below.trod laidOut (by kernel_rfl) (of_decide_eq_true (by kernel_rfl)) k1 bel lt1) (trodAll_cons_mk (Below.trod laidOut (by kernel_rfl) (of_decide_eq_true (by kernel_rfl)) k2 bel lt2) trodAll_mk0))), rfl, bel.frame _, fun h => by cases h⟩

noncomputable def laidWorld (os : Os) : World := World.doorLaid Tryz.prog 128 os
theorem laid_met (os : Os) : laidMet Tryz.prog Rows.fnMergedWalkRow.laid ((laidWorld os).forCall (fun _ _ => 0) ⟨#[], #[.int .i64 0, .slice none 0 0, .slice none 0 0], []⟩).memory :=
  laidMet_of_run' 8 (by kernel_rfl) (by kernel_rfl)
theorem reads (os : Os) {H : Type} (enc : TypeId × Value → H) : ∃ places, DataW.whole enc Tryz.prog ((laidWorld os).forCall (fun _ _ => 0) ⟨#[], #[.int .i64 0, .slice none 0 0, .slice none 0 0], []⟩).memory Tryz.f6.params.toList Rows.fnMergedWalkSpec.vars false (#[.int .i64 0, .slice none 0 0, .slice none 0 0] : Array Value).toList 8 = some ([.lit (.int .i64 0), .nil, .nil], [], places) :=
  ⟨[], by kernel_rfl⟩
set_option maxRecDepth 100000 in
theorem lifted (os : Os) (started : os.Started) (H : Type) (enc : TypeId × Value → H) (F : Stop.Interp) :
    ReturnsInHanded {} Tryz.checked os 6 .any ((OpenSpec.ofChange Rows.fnMergedWalkSpec).preRow enc Tryz.prog Tryz.f6 Rows.fnMergedWalkRow.domain false Rows.fnMergedWalkRow.laid) (((OpenSpec.ofChange Rows.fnMergedWalkSpec).at F).post enc Tryz.prog Tryz.f6 false true false false) := by
  obtain ⟨places, hx⟩ := reads os enc
  refine returnsInHanded_of_row (C := Tryz.checked) (s := OpenSpec.ofChange Rows.fnMergedWalkSpec) own started (by kernel_rfl) Tryz.func6
    (witness_row_at (enc := enc) (C := Tryz.checked) false (laidWorld os) #[.int .i64 0, .slice none 0 0, .slice none 0 0] rfl (by kernel_rfl) (by kernel_rfl) (by kernel_rfl)
      (OpenSpec.preRow_of_cond 8 hx (by kernel_rfl) (fun k hk => by cases hk) (by kernel_rfl) (laid_met os))) ?_
  intro W base args ds gs before hval hW _ _ hsz _ _ _
  exact contract H enc W base args ds gs before hval hW hsz
theorem said : Rows.FnMergedWalkSaid :=
  OpenClaim.holds_of_cond 6 Tryz.f6 rfl rfl rfl rfl rfl rfl rfl ⟨rfl, rfl, rfl, rfl, rfl⟩ rfl rfl rfl rfl rfl (by kernel_rfl) Tryz.func6 (by kernel_rfl)
    (of_decide_eq_true (by kernel_rfl)) (by unfold Func.isWrapper; first | (rw [if_pos (by decide +kernel)]; kernel_rfl) | (rw [if_neg (by decide +kernel)]; exact ⟨rfl, rfl⟩))
    (fun os started H enc _ F => by rw [OpenClaim.pre_eq_preRow]; exact lifted os started H enc F)
theorem plain (f : FuncId) (fn : Func) (hf : Tryz.pinned.checked.prog.funcNamed "pub-lockfold/laws.FnMergedWalk" = some f) (hfn : Tryz.pinned.checked.prog.funcs[f]? = some fn) :
    true = Tryz.pinned.checked.prog.looks [] ∧ ∀ (j : Nat) t, fn.params[j]? = some t → Tryz.pinned.checked.prog.wantsStandIn t = false := by
  obtain rfl : f = 6 := Option.some.inj ((show Tryz.prog.funcNamed "pub-lockfold/laws.FnMergedWalk" = some 6 by kernel_rfl).symm.trans hf) |>.symm
  obtain rfl : fn = Tryz.f6 := (Option.some.inj (Tryz.func6.symm.trans hfn)).symm
  refine ⟨by kernel_rfl, fun j t ht => ?_⟩
  rw [Tryz.params6] at ht
  have hm := Array.mem_of_getElem? ht
  simp only [List.mem_toArray, List.mem_cons, List.not_mem_nil, or_false] at hm
  have key : ∀ t ∈ [3, 46, 50], Tryz.prog.wantsStandIn t = false := by
    intro t h
    simp only [List.mem_cons, List.not_mem_nil, or_false] at h
    rcases h with rfl | rfl | rfl <;> kernel_rfl
  exact key t (by rcases hm with rfl | rfl | rfl <;> simp)
theorem card : Rows.FnMergedWalkCardSaid :=
  Claim7.holds_tied_plain_at .later [] _ _ _ _ said (fun _ h => by cases h) (by kernel_rfl) (fun _ h => by cases h) fnMergedWalk_row_tie rfl ⟨rfl, rfl⟩ (by kernel_rfl) rfl plain (by kernel_rfl)
end Go.Proofs.YtdkkkikcigjlhaaGreatDoor.fnMergedWalk
namespace Go.Proofs.YtdkkkikcigjlhaaGreatDoor
/-- The law's card. -/
theorem fnMergedWalk_card : Rows.FnMergedWalkCardSaid := fnMergedWalk.card
end Go.Proofs.YtdkkkikcigjlhaaGreatDoor
