/- FnMemWalk's walk, from arguments that are read as data. -/
import Derived.Test.YtdkkkikcigjlhaaGreatDoorMb18
namespace Go.Proofs.YtdkkkikcigjlhaaGreatDoor.Md
open Go.RowKit Go.Proofs.YtdkkkikcigjlhaaGreatDoor.Open Go.Proofs.YtdkkkikcigjlhaaGreatDoorW.PrintWords Go.Proofs.YtdkkkikcigjlhaaGreatDoor.Cmp Go.Proofs.YtdkkkikcigjlhaaGreatDoor.PFnMemMap
set_option linter.unusedVariables false
set_option linter.unusedSimpArgs false

abbrev SpanK : Kd (Bool × Bool × List Int × List Int) := Kd.pair Kd.bool (Kd.pair Kd.bool (Kd.pair (Kd.slice 5 (Kd.int .u8)) (Kd.slice 5 (Kd.int .u8))))

set_option maxRecDepth 100000 in
theorem span_opens : Opens Tryz.prog 61 SpanK (fun x => True ∧ True ∧ (∀ z ∈ x.2.2.1, (Lit.int .u8 z).wf = true) ∧ (∀ z ∈ x.2.2.2, (Lit.int .u8 z).wf = true)) :=
  (opens_struct (ok := _) Tryz.underlying61 (by kernel_rfl) (opensFs_cons (ok := fun _ => True) (ok' := _) (d := Kd.bool) (d' := _) rfl (by kernel_rfl) (opens_bool Tryz.underlying4) (opensFs_cons (ok := fun _ => True) (ok' := _) (d := Kd.bool) (d' := _) rfl (by kernel_rfl) (opens_bool Tryz.underlying4) (opensFs_cons (ok := U8ok) (ok' := U8ok) (d := Kd.slice 5 (Kd.int .u8)) (d' := Kd.slice 5 (Kd.int .u8)) rfl (by kernel_rfl) bytes_opens (opensFs_last rfl (by kernel_rfl) bytes_opens)))))

theorem span_form {w : World} {cs : Array Value} {x : Bool × Bool × List Int × List Int} (h : SpanK.K w x cs.toList) :
    ∃ S c L e, cs = #[.bool x.1, .bool x.2.1, .slice S x.2.2.1.length c, .slice L x.2.2.2.length e] ∧ Kd.C (Kd.int .u8) w S x.2.2.1.length x.2.2.1 ∧ x.2.2.1.length ≤ c ∧ Kd.C (Kd.int .u8) w L x.2.2.2.length x.2.2.2 ∧ x.2.2.2.length ≤ e := by
  obtain ⟨b1, b2, s, l⟩ := x
  obtain ⟨c0, c1, he, h0, c2, c3, h1, h2, c4, c5, h3, ⟨S, c, h4, h5, h6⟩, ⟨L, e, h7, h8, h9⟩⟩ := h
  refine ⟨S, c, L, e, ?_, h6, h5, h9, h8⟩
  have h0' : c0 = [.bool b1] := h0
  have h2' : c2 = [.bool b2] := h2
  subst h0' h2' h4 h7 h3 h1
  exact Array.toList_inj.1 he

theorem memWalk_row (o : Int) (A : Option Addr) (n c : Nat) (l : List S44) (cs : Array Value) (x : Bool × Bool × List Int × List Int) (Am : Option Addr) (nm cm : Nat) (ms : List S104) (w : World) (w0 : (Lit.int .i64 o).wf = true)
    (h : KvsK.K w l [.slice A n c]) (ho : ∀ x ∈ l, (∀ z ∈ x.f0, (Lit.int .u8 z).wf = true) ∧ (∀ z ∈ x.f1, (Lit.int .u8 z).wf = true)) (s : SpanK.K w x cs.toList) (so : True ∧ True ∧ (∀ z ∈ x.2.2.1, (Lit.int .u8 z).wf = true) ∧ (∀ z ∈ x.2.2.2, (Lit.int .u8 z).wf = true))
    (g : MvsK.K w ms [.slice Am nm cm]) (go : ∀ x ∈ ms, (Lit.int .i64 x.f0).wf = true ∧ (∀ z ∈ x.f1, (Lit.int .u8 z).wf = true)) :
    Calls Tryz.prog 5 #[.int .i64 o, .slice A n c, .agg cs, .slice Am nm cm] w fun x w' => x = .returned (.bool true) ∧ Below w.heap.size w w' := by
  obtain ⟨A', c', he, hc, hC⟩ := h
  injection he with he _
  injection he with e1 e2 e3
  subst e1 e2 e3
  obtain ⟨B', d', he, hd, hD⟩ := g
  injection he with he _
  injection he with e1 e2 e3
  subst e1 e2 e3
  obtain ⟨S, sc, L, lc, rfl, hS, hsc, hL, hlc⟩ := span_form s
  exact memWalk_law o hC hc (fun x hx => ⟨r_byt (ho x hx).1, r_byt (ho x hx).2⟩) hD hd (fun m hm => r_byt (go m hm).2) hS hsc hL hlc (r_byt so.2.2.1) (r_byt so.2.2.2)

end Go.Proofs.YtdkkkikcigjlhaaGreatDoor.Md
