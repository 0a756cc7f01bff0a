/- The law FnBloom: whatever the input, it answers true and its arguments read as they did. The row, out of the walk Go.Proofs.Ytpdibidfjhjoeaa.Bl.bloom_row. -/
import Derived.Test.YtpdibidfjhjoeaaRows
import Derived.Test.YtpdibidfjhjoeaaBlRow
import Derived.Test.YtpdibidfjhjoeaaOpen
import Derived.WalkKit
import Derived.ProofKit
import Derived.OpenShut
import Derived.ShutString
import Derived.ChangeOld
import Derived.Below
import Derived.SizedLaws
import Derived.Deep.DeepHandedRow
import Derived.Lib.LaidTab
import Derived.Test.YtpdibidfjhjoeaaWSized
import Derived.Test.YtpdibidfjhjoeaaWWords
namespace Go.Proofs.Ytpdibidfjhjoeaa.fnBloom
open Go.ChangeShapes Go.WideShapes Go.ChangeAt Go.RowKit Go.Proofs.YtpdibidfjhjoeaaW.PrintWords Go.Proofs.Ytpdibidfjhjoeaa.Open
theorem own : ownKnob Try.prog.godebug = none := by kernel_rfl
theorem laidOut : laidOutB Try.prog = true := by kernel_rfl
set_option maxRecDepth 100000 in
set_option maxHeartbeats 800000 in
theorem contract (H : Type) (enc : TypeId × Value → H) (W : World) (base : Nat) (args : Array Value) (ds gs : List (DataW H)) (before : List MemPlace)
    (hval0 : ∀ (j : Nat) t v, Try.f3.params[j]? = some t → args[j]? = some v → Value.okWide Try.prog W .any base t v)
    (hW : DataW.Whole enc Try.prog Try.f3.params.toList Rows.fnBloomSpec.vars false W args.toList ds gs before)
    (hsz0 : (DataW.weightsEach Try.prog (Try.f3.params.toList ++ Rows.fnBloomSpec.plain.varTypes Try.prog) (ds ++ gs)).all (· ≤ reachBytes) = true) :
    Calls Try.prog 3 args W fun e W' => ∃ v, e = .returned v ∧ Rows.fnBloomSpec.post enc Try.prog Try.f3 false true false false W args v W' := by
  have hval : ∀ (j : Nat) t v, Try.f3.params[j]? = some t → args[j]? = some v → Value.okWide Try.prog W .any base t v := hval0
  have hsz := hsz0
  have hW' := hW
  obtain ⟨p, q, hA0, hV, rfl, hfz, hnd⟩ := hW
  have hA : DataW.TrodAll enc Try.prog W 0 (fun _ => true) true Try.f3.params.toList args.toList ds p := hA0
  rw [Try.params3] at hA hval hsz
  obtain ⟨v0, vs0, d0, ds0, p0, q0, hargs, rfl, rfl, h0, r0⟩ := trodAll_cons hA
  obtain ⟨v1, vs1, d1, ds1, p1, q1, rfl, rfl, rfl, h1, r1⟩ := trodAll_cons r0
  obtain ⟨v2, vs2, d2, ds2, p2, q2, rfl, rfl, rfl, h2, r2⟩ := trodAll_cons r1
  obtain ⟨v3, vs3, d3, ds3, p3, q3, rfl, rfl, rfl, h3, r3⟩ := trodAll_cons r2
  obtain ⟨rfl, rfl, rfl⟩ := trodAll_nil r3
  obtain rfl : args = #[v0, v1, v2, v3] := by cases args; simp_all
  obtain ⟨rfl, rfl⟩ := trodVars_none hV
  obtain ⟨a0, rfl, rfl, rfl, w0⟩ := open_int Try.underlying3 (hval 0 3 v0 rfl rfl) h0
  obtain ⟨a1, len1, cap1, rfl⟩ := okWide_slice Try.underlying22 (hval 1 22 v1 rfl rfl)
  have k1 := h1
  have lt1 : ∀ x ∈ p1, x.block < W.heap.size := by obtain ⟨m, hm⟩ := k1; exact DataW.trod_lt m _ _ _ hm
  have z1 := k1
  obtain ⟨m1, hm1⟩ := z1
  obtain ⟨x1, K1, o1⟩ := (Go.Proofs.Ytpdibidfjhjoeaa.Bl.keys_opens.run) hm1
  replace K1 : (Go.Proofs.Ytpdibidfjhjoeaa.Bl.KeysK).K W x1 [.slice a1 len1 cap1] := K1
  clear hm1
  obtain ⟨a2, len2, cap2, rfl⟩ := okWide_slice Try.underlying23 (hval 2 23 v2 rfl rfl)
  have k2 := h2
  have lt2 : ∀ x ∈ p2, x.block < W.heap.size := by obtain ⟨m, hm⟩ := k2; exact DataW.trod_lt m _ _ _ hm
  have z2 := k2
  obtain ⟨m2, hm2⟩ := z2
  obtain ⟨x2, K2, o2⟩ := (Go.Proofs.Ytpdibidfjhjoeaa.Bl.bytes_opens.run) hm2
  replace K2 : (Go.Proofs.Ytpdibidfjhjoeaa.Bl.BytesK).K W x2 [.slice a2 len2 cap2] := K2
  clear hm2
  obtain ⟨a3, len3, cap3, rfl⟩ := okWide_slice Try.underlying23 (hval 3 23 v3 rfl rfl)
  have k3 := h3
  have lt3 : ∀ x ∈ p3, x.block < W.heap.size := by obtain ⟨m, hm⟩ := k3; exact DataW.trod_lt m _ _ _ hm
  have z3 := k3
  obtain ⟨m3, hm3⟩ := z3
  obtain ⟨x3, K3, o3⟩ := (Go.Proofs.Ytpdibidfjhjoeaa.Bl.bytes_opens.run) hm3
  replace K3 : (Go.Proofs.Ytpdibidfjhjoeaa.Bl.BytesK).K W x3 [.slice a3 len3 cap3] := K3
  clear hm3
  clear hA0 hval0 hsz0 hsz
  refine (Go.Proofs.Ytpdibidfjhjoeaa.Bl.bloom_row a0 a1 len1 cap1 x1 a2 len2 cap2 x2 a3 len3 cap3 x3 W w0 K1 o1 K2 o2 K3 o3).mono fun e W' ⟨he, bel⟩ => ?_
  subst he
  exact ⟨_, rfl, _, _, _, [], _, [], hW', trodAll_mk1 (shut_bool Try.underlying4 _), (trodAll_cons_mk (shut_int Try.underlying3 w0) (trodAll_cons_mk (Below.trod laidOut (by kernel_rfl) (of_decide_eq_true (by kernel_rfl)) k1 bel lt1) (trodAll_cons_mk (Below.trod laidOut (by kernel_rfl) (of_decide_eq_true (by kernel_rfl)) k2 bel lt2) (trodAll_cons_mk (Below.trod laidOut (by kernel_rfl) (of_decide_eq_true (by kernel_rfl)) k3 bel lt3) trodAll_mk0)))), rfl, bel.frame _, fun h => by cases h⟩

set_option maxRecDepth 100000 in
theorem lifted (os : Os) (started : os.Started) (H : Type) (enc : TypeId × Value → H) :
    ReturnsInHanded {} Try.checked os 3 .any (Rows.fnBloomSpec.pre6 enc Try.prog Try.f3 Rows.fnBloomRow.domain false) (Rows.fnBloomSpec.post enc Try.prog Try.f3 false true false false) := by
  refine returnsInHanded_of_change_sized (C := Try.checked) own started (by kernel_rfl) Try.func3
    (ChangeSpec.witness6 (enc := enc) (C := Try.checked) false ⟨#[], #[.int .i64 0, .slice none 0 0, .slice none 0 0, .slice none 0 0], []⟩ 8 (by kernel_rfl) (by kernel_rfl) (by kernel_rfl) (by kernel_rfl)) ?_
  intro W base args ds gs before hval0 hW hcnd hsz0 _
  exact contract H enc W base args ds gs before hval0 hW hsz0
theorem said : Rows.FnBloomSaid :=
  OpenClaim.holds_of_wide 3 Try.f3 rfl rfl rfl rfl rfl rfl rfl ⟨rfl, rfl, rfl, rfl, rfl⟩ rfl rfl rfl rfl rfl (by kernel_rfl) Try.func3 (by kernel_rfl)
    (of_decide_eq_true (by kernel_rfl)) (by unfold Func.isWrapper; first | (rw [if_pos (by decide +kernel)]; kernel_rfl) | (rw [if_neg (by decide +kernel)]; exact ⟨rfl, rfl⟩))
    (fun os started H enc _ => lifted os started H enc)
end Go.Proofs.Ytpdibidfjhjoeaa.fnBloom
namespace Go.Proofs.Ytpdibidfjhjoeaa
/-- The law's row. -/
theorem fnBloom_holds : Rows.FnBloomSaid := fnBloom.said
end Go.Proofs.Ytpdibidfjhjoeaa
