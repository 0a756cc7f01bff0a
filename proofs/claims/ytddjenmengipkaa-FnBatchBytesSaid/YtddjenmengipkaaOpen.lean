/- Arguments opened: what a value that reads as data says in the words of Kd (kinds of values), type by type. -/
import Derived.Test.YtddjenmengipkaaWMore
import Derived.Deep.Slices
import Derived.WalkKit
import Derived.Below
namespace Go.Proofs.Ytddjenmengipkaa.Open
open Go.ChangeShapes Go.WideShapes Go.RowKit Go.Proofs.YtddjenmengipkaaW.PrintWords

/-- Whatever reads as data of the type is of the kind. -/
structure Opens (P : Program) (t : TypeId) {α : Type} (d : Kd α) (ok : α → Prop) : Prop where
  run : ∀ {H : Type} {enc : TypeId × Value → H} {w : World} {base : Nat} {spare : Nat → Bool} {fuel : Nat} {cs : List Value} {x : DataW H × List MemPlace}, DataW.trod enc P w base spare true fuel t cs = some x → ∃ a, d.K w a cs ∧ ok a

section
variable {P : Program} {t e : TypeId} {α β : Type} {d : Kd α} {ok : α → Prop}

theorem Opens.imp (h : Opens P t d ok) {ok' : α → Prop} (hi : ∀ a, ok a → ok' a) : Opens P t d ok' := by
  refine ⟨fun hx => ?_⟩
  obtain ⟨a, h1, h2⟩ := h.run hx
  exact ⟨a, h1, hi a h2⟩

theorem opens_int {k : IntKind} (ht : P.underlying t = some (.int k)) : Opens P t (Kd.int k) (fun n => (Lit.int k n).wf = true) := by
  refine ⟨fun hx => ?_⟩
  obtain ⟨n, h1, _, h3⟩ := DataW.trod_int ht hx
  exact ⟨n, h1, h3⟩

theorem opens_bool (ht : P.underlying t = some .bool) : Opens P t Kd.bool (fun _ => True) := by
  refine ⟨fun {H enc w base spare fuel cs x} hx => ?_⟩
  cases fuel with
  | zero => simp [DataW.trod] at hx
  | succ n =>
    unfold DataW.trod at hx
    rw [ht] at hx
    match cs, hx with
    | [.bool b], _ => exact ⟨b, rfl, trivial⟩

theorem opens_string (ht : P.underlying t = some .string) : Opens P t Kd.string (fun s => s.size ≤ maxLen) := by
  refine ⟨fun {H enc w base spare fuel cs x} hx => ?_⟩
  cases fuel with
  | zero => simp [DataW.trod] at hx
  | succ n =>
    unfold DataW.trod at hx
    rw [ht] at hx
    match cs, hx with
    | [.string s], hx =>
      refine ⟨s, rfl, ?_⟩
      by_cases h : s.size ≤ maxLen
      · exact h
      · simp [h] at hx

theorem opens_slice (ht : P.underlying t = some (.slice e)) (hs : P.cellsOf e = d.sz) (h : Opens P e d ok) : Opens P t (Kd.slice e d) (fun xs => ∀ x ∈ xs, ok x) := by
  refine ⟨fun {H enc w base spare fuel cs x} hx => ?_⟩
  rcases Go.Deep.open_slice ht hx with ⟨rfl, _⟩ | ⟨a, len, cap, m, n, D, Pl, rfl, _, hl, hm, hmm, _, hel⟩
  · exact ⟨[], ⟨none, 0, rfl, Nat.le_refl _, Kd.C_nil _ _⟩, fun x hx => by cases hx⟩
  · have hlm : len ≤ m := by rw [hmm]; split <;> omega
    have one : ∀ i, i < len → ∃ x, ok x ∧ ∃ c, c.length = d.sz ∧ d.K w x c ∧ ∀ j u, c[j]? = some u → w.cell? (a.add (i * d.sz + j)) = some u := fun i hi => by
      obtain ⟨cs', h1, h2⟩ := hel i (by omega)
      obtain ⟨x, h3, h4⟩ := h.run h2
      obtain ⟨_, h5, h6⟩ := World.cells?_some h1
      refine ⟨x, h4, cs', by rw [h5, hs], h3, fun j u hj => ?_⟩
      have hjl : j < P.cellsOf e := by
        rw [← h5]
        exact (List.getElem?_eq_some_iff.1 hj).1
      have := h6 j hjl
      rw [hj, Go.Deep.add_add, hs] at this
      exact this
    have all : ∃ xs : List α, xs.length = len ∧ (∀ x ∈ xs, ok x) ∧ ∀ j p, xs[j]? = some p → ∃ c, c.length = d.sz ∧ d.K w p c ∧ ∀ i u, c[i]? = some u → w.cell? (a.add (j * d.sz + i)) = some u := by
      rcases Nat.eq_zero_or_pos len with z | z
      · exact ⟨[], z.symm, (fun x hx => by cases hx), (fun j p hj => by simp at hj)⟩
      · obtain ⟨x0, _⟩ := one 0 z
        have : Inhabited α := ⟨x0⟩
        obtain ⟨f, hf⟩ := Go.Deep.choose_lt one
        refine ⟨(List.range len).map f, by simp, fun x hx => ?_, fun j p hj => ?_⟩
        · obtain ⟨i, hi, rfl⟩ := List.mem_map.1 hx
          exact (hf i (List.mem_range.1 hi)).1
        · have hjl : j < len := by
            have := (List.getElem?_eq_some_iff.1 hj).1
            simpa using this
          simp [hjl] at hj
          subst hj
          exact (hf j hjl).2
    obtain ⟨xs, hx1, hx2, hx3⟩ := all
    subst hx1
    refine ⟨xs, ⟨some a, cap, rfl, hl, rfl, ?_, fun _ => ⟨a, rfl, hx3⟩⟩, hx2⟩
    have : maxLen = 9223372036854775807 := rfl
    omega

/-- fields in line, from a place on -/
structure OpensFs (P : Program) (fs : List Field) (off : Nat) {α : Type} (d : Kd α) (ok : α → Prop) : Prop where
  run : ∀ {H : Type} {enc : TypeId × Value → H} {w : World} {base : Nat} {spare : Nat → Bool} {fuel : Nat} {cs : List Value}, cs.length = off + d.sz →
    (∀ f, f ∈ fs → ∃ y, DataW.trod enc P w base spare true fuel f.type ((cs.drop f.offset).take (P.cellsOf f.type)) = some y) → ∃ a, d.K w a (cs.drop off) ∧ ok a

theorem opensFs_last {f : Field} {off : Nat} (ho : f.offset = off) (hs : P.cellsOf f.type = d.sz) (h : Opens P f.type d ok) : OpensFs P [f] off d ok := by
  refine ⟨fun {H enc w base spare fuel cs} hl hf => ?_⟩
  obtain ⟨y, hy⟩ := hf f (by simp)
  rw [ho, hs, List.take_of_length_le (by simp; omega)] at hy
  exact h.run hy

theorem opensFs_cons {f : Field} {fs : List Field} {off : Nat} {d' : Kd β} {ok' : β → Prop} (ho : f.offset = off) (hs : P.cellsOf f.type = d.sz) (h : Opens P f.type d ok) (g : OpensFs P fs (off + d.sz) d' ok') :
    OpensFs P (f :: fs) off (Kd.pair d d') (fun x => ok x.1 ∧ ok' x.2) := by
  refine ⟨fun {H enc w base spare fuel cs} hl hf => ?_⟩
  obtain ⟨y, hy⟩ := hf f (by simp)
  rw [ho, hs] at hy
  obtain ⟨a, h1, h2⟩ := h.run hy
  have hsz : (Kd.pair d d').sz = d.sz + d'.sz := rfl
  obtain ⟨b, h3, h4⟩ := g.run (cs := cs) (by omega) (fun f' hf' => hf f' (by simp [hf']))
  refine ⟨(a, b), ⟨(cs.drop off).take d.sz, cs.drop (off + d.sz), ?_, h1, h3⟩, h2, h4⟩
  rw [← List.drop_drop, List.take_append_drop]

theorem opens_struct {fs : Array Field} (ht : P.underlying t = some (.struct fs)) (hc : P.cellsOf t = d.sz) (h : OpensFs P fs.toList 0 d ok) : Opens P t d ok := by
  refine ⟨fun {H enc w base spare fuel cs x} hx => ?_⟩
  obtain ⟨xs, n, _, _, hl, hlen, hf⟩ := DataW.trod_struct ht hx
  have := h.run (cs := cs) (by omega) (fun f hfm => by
    obtain ⟨i, hi⟩ := List.getElem?_of_mem hfm
    have hi' : fs[i]? = some f := by simpa using hi
    have hlt : i < xs.length := by
      rw [hlen]
      exact (Array.getElem?_eq_some_iff.1 hi').1
    exact ⟨xs[i], (hf i f hi').trans (List.getElem?_eq_getElem hlt)⟩)
  simpa using this

theorem opens_iso (h : Opens P t d ok) (f : β → α) (g : α → β) (hfg : ∀ a, f (g a) = a) : Opens P t (Kd.iso d f) (fun b => ok (f b)) := by
  refine ⟨fun hx => ?_⟩
  obtain ⟨a, h1, h2⟩ := h.run hx
  refine ⟨g a, ?_, ?_⟩
  · show d.K _ (f (g a)) _
    rw [hfg]; exact h1
  · show ok (f (g a))
    rw [hfg]; exact h2
end

end Go.Proofs.Ytddjenmengipkaa.Open
