/- The law FnIkey: whatever the input, it answers true and its arguments read as they did. The row, out of the walk Go.Proofs.YtpdibidfjhjoeaaDoor.Ik.ikey_row. -/
import Derived.Test.YtpdibidfjhjoeaaDoorRows
import Derived.Test.YtpdibidfjhjoeaaDoorIkEnd
import Derived.Test.YtpdibidfjhjoeaaDoorOpen
import Derived.Test.YtpdibidfjhjoeaaDoorCards
import Derived.Test.YtpdibidfjhjoeaaDoorTie
import Derived.WalkKit
import Derived.ProofKit
import Derived.OpenShut
import Derived.ShutString
import Derived.ChangeOld
import Derived.Below
import Derived.SizedLaws
import Derived.Deep.DeepHandedRow
import Derived.Lib.LaidTab
import Derived.Test.YtpdibidfjhjoeaaDoorWSized
import Derived.Test.YtpdibidfjhjoeaaDoorWWords
namespace Go.Proofs.YtpdibidfjhjoeaaDoor.fnIkey
open Go.ChangeShapes Go.WideShapes Go.ChangeAt Go.RowKit Go.Proofs.YtpdibidfjhjoeaaDoorW.PrintWords Go.Proofs.YtpdibidfjhjoeaaDoor.Open
theorem own : ownKnob Tryd.prog.godebug = none := by kernel_rfl
theorem laidOut : laidOutB Tryd.prog = true := by kernel_rfl
set_option maxRecDepth 100000 in
set_option maxHeartbeats 800000 in
theorem contract (H : Type) (enc : TypeId × Value → H) (W : World) (base : Nat) (args : Array Value) (ds gs : List (DataW H)) (before : List MemPlace)
    (hval0 : ∀ (j : Nat) t v, Tryd.f6.params[j]? = some t → args[j]? = some v → Value.okWide Tryd.prog W .any base t v)
    (hW : DataW.Whole enc Tryd.prog Tryd.f6.params.toList Rows.fnIkeySpec.vars false W args.toList ds gs before)
    (hsz0 : (DataW.weightsEach Tryd.prog (Tryd.f6.params.toList ++ Rows.fnIkeySpec.plain.varTypes Tryd.prog) (ds ++ gs)).all (· ≤ reachBytes) = true) :
    Calls Tryd.prog 6 args W fun e W' => ∃ v, e = .returned v ∧ Rows.fnIkeySpec.post enc Tryd.prog Tryd.f6 false true false false W args v W' := by
  have hval : ∀ (j : Nat) t v, Tryd.f6.params[j]? = some t → args[j]? = some v → Value.okWide Tryd.prog W .any base t v := hval0
  have hsz := hsz0
  have hW' := hW
  obtain ⟨p, q, hA0, hV, rfl, hfz, hnd⟩ := hW
  have hA : DataW.TrodAll enc Tryd.prog W 0 (fun _ => true) true Tryd.f6.params.toList args.toList ds p := hA0
  rw [Tryd.params6] at hA hval hsz
  obtain ⟨v0, vs0, d0, ds0, p0, q0, hargs, rfl, rfl, h0, r0⟩ := trodAll_cons hA
  obtain ⟨v1, vs1, d1, ds1, p1, q1, rfl, rfl, rfl, h1, r1⟩ := trodAll_cons r0
  obtain ⟨v2, vs2, d2, ds2, p2, q2, rfl, rfl, rfl, h2, r2⟩ := trodAll_cons r1
  obtain ⟨v3, vs3, d3, ds3, p3, q3, rfl, rfl, rfl, h3, r3⟩ := trodAll_cons r2
  obtain ⟨rfl, rfl, rfl⟩ := trodAll_nil r3
  obtain rfl : args = #[v0, v1, v2, v3] := by cases args; simp_all
  obtain ⟨rfl, rfl⟩ := trodVars_none hV
  obtain ⟨cs0, rfl, _⟩ := okWide_struct Tryd.underlying42 (hval 0 42 v0 rfl rfl)
  have k0 := h0
  have lt0 : ∀ x ∈ p0, x.block < W.heap.size := by obtain ⟨m, hm⟩ := k0; exact DataW.trod_lt m _ _ _ hm
  have z0 := k0
  obtain ⟨m0, hm0⟩ := z0
  obtain ⟨x0, K0, o0⟩ := (Go.Proofs.YtpdibidfjhjoeaaDoor.Ik.rec_opens.run) hm0
  replace K0 : (Go.Proofs.YtpdibidfjhjoeaaDoor.Ik.RecK).K W x0 cs0.toList := K0
  clear hm0
  obtain ⟨cs1, rfl, _⟩ := okWide_struct Tryd.underlying42 (hval 1 42 v1 rfl rfl)
  have k1 := h1
  have lt1 : ∀ x ∈ p1, x.block < W.heap.size := by obtain ⟨m, hm⟩ := k1; exact DataW.trod_lt m _ _ _ hm
  have z1 := k1
  obtain ⟨m1, hm1⟩ := z1
  obtain ⟨x1, K1, o1⟩ := (Go.Proofs.YtpdibidfjhjoeaaDoor.Ik.rec_opens.run) hm1
  replace K1 : (Go.Proofs.YtpdibidfjhjoeaaDoor.Ik.RecK).K W x1 cs1.toList := K1
  clear hm1
  obtain ⟨a2, rfl, rfl, rfl, w2⟩ := open_int Tryd.underlying32 (hval 2 32 v2 rfl rfl) h2
  obtain ⟨a3, rfl, rfl, rfl, w3⟩ := open_int Tryd.underlying32 (hval 3 32 v3 rfl rfl) h3
  clear hA0 hval0 hsz0 hsz
  refine (Go.Proofs.YtpdibidfjhjoeaaDoor.Ik.ikey_row cs0 x0 cs1 x1 a2 a3 W K0 o0 K1 o1 w2 w3).mono fun e W' ⟨he, bel⟩ => ?_
  subst he
  exact ⟨_, rfl, _, _, _, [], _, [], hW', trodAll_mk1 (shut_bool Tryd.underlying4 _), (trodAll_cons_mk (Below.trod laidOut (by kernel_rfl) (of_decide_eq_true (by kernel_rfl)) k0 bel lt0) (trodAll_cons_mk (Below.trod laidOut (by kernel_rfl) (of_decide_eq_true (by kernel_rfl)) k1 bel lt1) (trodAll_cons_mk (shut_int Tryd.underlying32 w2) (trodAll_cons_mk (shut_int Tryd.underlying32 w3) trodAll_mk0)))), rfl, bel.frame _, fun h => by cases h⟩

noncomputable def laidWorld (os : Os) : World := World.holding Tryd.prog os ⟨#[], #[], []⟩
theorem laid_met (os : Os) : laidMet Tryd.prog Rows.fnIkeyRow.laid ((laidWorld os).forCall (fun _ _ => 0) ⟨#[], #[.agg #[.bool false, .slice none 0 0, .slice none 0 0], .agg #[.bool false, .slice none 0 0, .slice none 0 0], .int .u64 0, .int .u64 0], []⟩).memory :=
  laidMet_of_run' 8 (by kernel_rfl) (by kernel_rfl)
theorem reads (os : Os) {H : Type} (enc : TypeId × Value → H) : ∃ places, DataW.whole enc Tryd.prog ((laidWorld os).forCall (fun _ _ => 0) ⟨#[], #[.agg #[.bool false, .slice none 0 0, .slice none 0 0], .agg #[.bool false, .slice none 0 0, .slice none 0 0], .int .u64 0, .int .u64 0], []⟩).memory Tryd.f6.params.toList Rows.fnIkeySpec.vars false (#[.agg #[.bool false, .slice none 0 0, .slice none 0 0], .agg #[.bool false, .slice none 0 0, .slice none 0 0], .int .u64 0, .int .u64 0] : Array Value).toList 8 = some ([.agg [.lit (.bool false), .nil, .nil], .agg [.lit (.bool false), .nil, .nil], .lit (.int .u64 0), .lit (.int .u64 0)], [], places) :=
  ⟨[], by kernel_rfl⟩
set_option maxRecDepth 100000 in
theorem lifted (os : Os) (started : os.Started) (H : Type) (enc : TypeId × Value → H) (F : Stop.Interp) :
    ReturnsInHanded {} Tryd.checked os 6 .any ((OpenSpec.ofChange Rows.fnIkeySpec).preRow enc Tryd.prog Tryd.f6 Rows.fnIkeyRow.domain false Rows.fnIkeyRow.laid) (((OpenSpec.ofChange Rows.fnIkeySpec).at F).post enc Tryd.prog Tryd.f6 false true false false) := by
  obtain ⟨places, hx⟩ := reads os enc
  refine returnsInHanded_of_row (C := Tryd.checked) (s := OpenSpec.ofChange Rows.fnIkeySpec) own started (by kernel_rfl) Tryd.func6
    (witness_row_at (enc := enc) (C := Tryd.checked) false (laidWorld os) #[.agg #[.bool false, .slice none 0 0, .slice none 0 0], .agg #[.bool false, .slice none 0 0, .slice none 0 0], .int .u64 0, .int .u64 0] rfl (by kernel_rfl) (by kernel_rfl) (by kernel_rfl)
      (OpenSpec.preRow_of_cond 8 hx (by kernel_rfl) (fun k hk => by cases hk) (by kernel_rfl) (laid_met os))) ?_
  intro W base args ds gs before hval hW _ _ hsz _ _ _
  exact contract H enc W base args ds gs before hval hW hsz
theorem said : Rows.FnIkeySaid :=
  OpenClaim.holds_of_cond 6 Tryd.f6 rfl rfl rfl rfl rfl rfl rfl ⟨rfl, rfl, rfl, rfl, rfl⟩ rfl rfl rfl rfl rfl (by kernel_rfl) Tryd.func6 (by kernel_rfl)
    (of_decide_eq_true (by kernel_rfl)) (by unfold Func.isWrapper; first | (rw [if_pos (by decide +kernel)]; kernel_rfl) | (rw [if_neg (by decide +kernel)]; exact ⟨rfl, rfl⟩))
    (fun os started H enc _ F => by rw [OpenClaim.pre_eq_preRow]; exact lifted os started H enc F)
theorem plain (f : FuncId) (fn : Func) (hf : Tryd.pinned.checked.prog.funcNamed "pub-lockfold/laws.FnIkey" = some f) (hfn : Tryd.pinned.checked.prog.funcs[f]? = some fn) :
    false = Tryd.pinned.checked.prog.looks [] ∧ ∀ (j : Nat) t, fn.params[j]? = some t → Tryd.pinned.checked.prog.wantsStandIn t = false := by
  obtain rfl : f = 6 := Option.some.inj ((show Tryd.prog.funcNamed "pub-lockfold/laws.FnIkey" = some 6 by kernel_rfl).symm.trans hf) |>.symm
  obtain rfl : fn = Tryd.f6 := (Option.some.inj (Tryd.func6.symm.trans hfn)).symm
  refine ⟨by kernel_rfl, fun j t ht => ?_⟩
  rw [Tryd.params6] at ht
  have hm := Array.mem_of_getElem? ht
  simp only [List.mem_toArray, List.mem_cons, List.not_mem_nil, or_false] at hm
  have key : ∀ t ∈ [32, 42], Tryd.prog.wantsStandIn t = false := by
    intro t h
    simp only [List.mem_cons, List.not_mem_nil, or_false] at h
    rcases h with rfl | rfl <;> kernel_rfl
  exact key t (by rcases hm with rfl | rfl | rfl | rfl <;> simp)
theorem card : Rows.FnIkeyCardSaid :=
  Claim7.holds_tied_plain_at .later [] _ _ _ _ said (fun _ h => by cases h) (by kernel_rfl) (fun _ h => by cases h) fnIkey_row_tie rfl ⟨rfl, rfl⟩ (by kernel_rfl) rfl plain (by kernel_rfl)
end Go.Proofs.YtpdibidfjhjoeaaDoor.fnIkey
namespace Go.Proofs.YtpdibidfjhjoeaaDoor
/-- The law's card. -/
theorem fnIkey_card : Rows.FnIkeyCardSaid := fnIkey.card
end Go.Proofs.YtpdibidfjhjoeaaDoor
