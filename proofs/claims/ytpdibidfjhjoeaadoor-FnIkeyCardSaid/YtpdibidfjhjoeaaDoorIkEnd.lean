/- FnIkey's walk, from arguments that are read as data. -/
import Derived.Test.YtpdibidfjhjoeaaDoorIkRow
import Derived.Test.YtpdibidfjhjoeaaDoorOpen
namespace Go.Proofs.YtpdibidfjhjoeaaDoor.Ik
open Go.RowKit Go.Proofs.YtpdibidfjhjoeaaDoor.Open Go.Proofs.YtpdibidfjhjoeaaDoorW.PrintWords Go.Proofs.YtpdibidfjhjoeaaDoor.Cmp Go.Proofs.YtpdibidfjhjoeaaDoor.Sep

theorem byt_wf {l : List Int} (h : ∀ x ∈ l, (Lit.int .u8 x).wf = true) : Byt l := fun x hx => by
  have := h x hx
  simp [Lit.wf, IntKind.min, IntKind.max, IntKind.bits, IntKind.signed] at this
  omega

abbrev RecK : Kd (Bool × List Int × List Int) := Kd.pair Kd.bool (Kd.pair (Kd.slice 5 (Kd.int .u8)) (Kd.slice 5 (Kd.int .u8)))

theorem bytes_opens : Opens Tryd.prog 22 (Kd.slice 5 (Kd.int .u8)) (fun l => ∀ z ∈ l, (Lit.int .u8 z).wf = true) := opens_slice Tryd.underlying22 (by kernel_rfl) (opens_int Tryd.underlying5)

set_option maxRecDepth 100000 in
theorem rec_opens : Opens Tryd.prog 42 RecK (fun x => True ∧ (∀ z ∈ x.2.1, (Lit.int .u8 z).wf = true) ∧ (∀ z ∈ x.2.2, (Lit.int .u8 z).wf = true)) :=
  (opens_struct (ok := _) Tryd.underlying42 (by kernel_rfl) (opensFs_cons (ok := fun _ => True) (ok' := _) (d := Kd.bool) (d' := _) rfl (by kernel_rfl) (opens_bool Tryd.underlying4) (opensFs_cons (ok := _) (ok' := _) (d := _) (d' := _) rfl (by kernel_rfl) bytes_opens (opensFs_last rfl (by kernel_rfl) bytes_opens)))).imp fun a h => h

theorem rec_form {w : World} {cs : Array Value} {x : Bool × List Int × List Int} (h : RecK.K w x cs.toList) :
    ∃ K c V e, cs = #[.bool x.1, .slice K x.2.1.length c, .slice V x.2.2.length e] ∧ Kd.C (Kd.int .u8) w K x.2.1.length x.2.1 ∧ x.2.1.length ≤ c ∧ Kd.C (Kd.int .u8) w V x.2.2.length x.2.2 ∧ x.2.2.length ≤ e := by
  obtain ⟨d, k, v⟩ := x
  obtain ⟨c0, c1, he, h0, c2, c3, h1, ⟨K, c, h2, h3, h4⟩, ⟨V, e, h5, h6, h7⟩⟩ := h
  refine ⟨K, c, V, e, ?_, h4, h3, h7, h6⟩
  have h0' : c0 = [.bool d] := h0
  subst h0' h2 h5 h1
  exact Array.toList_inj.1 he

theorem ikey_row (cs : Array Value) (x : Bool × List Int × List Int) (cs' : Array Value) (y : Bool × List Int × List Int) (p0 q0 : Int) (w : World)
    (h : RecK.K w x cs.toList) (hx : True ∧ (∀ z ∈ x.2.1, (Lit.int .u8 z).wf = true) ∧ (∀ z ∈ x.2.2, (Lit.int .u8 z).wf = true))
    (g : RecK.K w y cs'.toList) (hy : True ∧ (∀ z ∈ y.2.1, (Lit.int .u8 z).wf = true) ∧ (∀ z ∈ y.2.2, (Lit.int .u8 z).wf = true))
    (w1 : (Lit.int .u64 p0).wf = true) (w2 : (Lit.int .u64 q0).wf = true) :
    Calls Tryd.prog 6 #[.agg cs, .agg cs', .int .u64 p0, .int .u64 q0] w fun x w' => x = .returned (.bool true) ∧ Below w.heap.size w w' := by
  obtain ⟨K, c, V, e, rfl, r1, r2, r3, r4⟩ := rec_form h
  obtain ⟨K', c', V', e', rfl, r1', r2', r3', r4'⟩ := rec_form g
  exact ikey_walk x.1 K c x.2.1 V e x.2.2 y.1 K' c' y.2.1 V' e' y.2.2 p0 q0 w r1 r2 (byt_wf hx.2.1) r3 r4 (byt_wf hx.2.2) r1' r2' (byt_wf hy.2.1) r3' r4' (byt_wf hy.2.2) w1 w2

end Go.Proofs.YtpdibidfjhjoeaaDoor.Ik
