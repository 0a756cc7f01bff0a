/- Words that print.sh printed (a cut). -/
import Derived.Test.YtdkkkikcigjlhaaGreatDoorMj01
import Derived.Test.YtdkkkikcigjlhaaGreatDoorMj03
import Derived.Laws.StructEq
set_option linter.unusedVariables false
set_option linter.unusedSimpArgs false
/-! ### 41. Arrays '[n]T' as_ values: a kind (a field, an element of a row), an element read, an element set -/
namespace Go.Proofs.YtdkkkikcigjlhaaGreatDoorW.PrintWords
open Go.RowKit
namespace Kd
theorem reps_one {α : Type} {R : α → List Value → Prop} {size : Nat} {ps : List α} {cs : List Value} (h : Reps R size ps cs) (hs0 : 0 < size) (hR : ∀ p c, R p c → ∀ u ∈ c, u.oneCell' = true) : ∀ u ∈ cs, u.oneCell' = true := by
  intro u hu
  obtain ⟨q, hq, rfl⟩ := List.mem_iff_getElem.1 hu
  have hql : q / size < ps.length := by
    rw [Nat.div_lt_iff_lt_mul hs0, ← h.1]
    exact hq
  refine hR _ _ (h.2 (q / size) _ (List.getElem?_eq_getElem hql)) _ ?_
  rw [List.mem_iff_getElem?]
  refine ⟨q % size, ?_⟩
  rw [List.getElem?_take, if_pos (Nat.mod_lt _ hs0), List.getElem?_drop, Nat.mul_comm, Nat.div_add_mod, List.getElem?_eq_getElem hq]
def arr {α : Type} (n : Nat) (d : Kd α) (hs : 0 < d.sz) : Kd (List α) where
  sz := n * d.sz
  E := d.E
  K := fun w xs cs => xs.length = n ∧ Reps (d.K w) d.sz xs cs
  M := fun w base ok xs cs => xs.length = n ∧ Reps (d.M w base ok) d.sz xs cs
  K_len := fun h => by rw [← h.1]; exact h.2.1
  K_one := fun h => reps_one h.2 hs (fun _ _ hk => d.K_one hk)
  K_below := fun hb h => ⟨h.1, h.2.imp_ (fun _ _ hk => d.K_below hb hk)⟩
  K_of_M := fun h => ⟨h.1, h.2.imp_ (fun _ _ hk => d.K_of_M hk)⟩
  M_mono := fun hok h => ⟨h.1, h.2.imp_ (fun _ _ hk => d.M_mono hok hk)⟩
  M_bound := fun h => ⟨h.1, h.2.imp_ (fun _ _ hk => d.M_bound hk)⟩
  M_move := fun hm h => ⟨h.1, h.2.imp_ (fun _ _ hk => d.M_move hm hk)⟩
  M_lower := fun hb h => ⟨h.1, h.2.imp_ (fun _ _ hk => d.M_lower hb hk)⟩
section
variable {α : Type} {n : Nat} {d : Kd α} {hs : 0 < d.sz} {w : World} {base : Nat} {ok : Nat → Prop} {xs : List α} {cs : List Value}
theorem arr_len (h : (arr n d hs).K w xs cs) : xs.length = n := h.1
end
section
variable {α : Type} {n : Nat} {enc : α → Value} {h1 : ∀ x, (enc x).oneCell' = true} {hs : 0 < (scalar enc h1).sz} {w : World} {base : Nat} {ok : Nat → Prop} {xs : List α} {cs : List Value}
end
end Kd
end Go.Proofs.YtdkkkikcigjlhaaGreatDoorW.PrintWords

/-! ### 42. append(v, make([]T, n)...): the operation comes as_ append with the number in the second place -/
namespace Go.Proofs.YtdkkkikcigjlhaaGreatDoorW.PrintWords
open Go.RowKit
section
variable {P : Program}
end
namespace Kd
section
variable {P : Program} {ops : Array Oper} {rest : List Oper} {o : Oper} {a : Act} {Q : Exit → Act → World → Prop} {Kc : Act → World → Prop} {α : Type}
end
/-! #### the same for rows whose elements lie apart -/
section
variable {α : Type} {d : Kd α} {e : Nat} {w : World} {base : Nat} {ok : Nat → Prop} {v : Value} {xs : List α}
end
section
variable {P : Program} {ops : Array Oper} {rest : List Oper} {o : Oper} {a : Act} {Q : Exit → Act → World → Prop} {Kc : Act → World → Prop} {α : Type}
end
end Kd
end Go.Proofs.YtdkkkikcigjlhaaGreatDoorW.PrintWords

/-! ### 43. What is read beside a state: it stays read whatever the state's calls turn ('∀ W', KeepBut w W' g none → d.C W' A n xs') -/
namespace Go.Proofs.YtdkkkikcigjlhaaGreatDoorW.PrintWords
open Go.RowKit
namespace Kd
structure Heap {α : Type} (d : Kd α) : Prop where
  K : ∀ {w w1 : World} {x : α} {cs : List Value}, (∀ k, k < w.heap.size → w1.heap[k]? = w.heap[k]?) → d.K w x cs → d.K w1 x cs
theorem cell_heap {w w1 : World} (hb : ∀ k, k < w.heap.size → w1.heap[k]? = w.heap[k]?) {a : Addr} {v : Value} (h : w.cell? a = some v) : w1.cell? a = some v := by
  have := hb a.block (World.block_lt_of_cell? w a h)
  simpa [World.cell?, this] using h
theorem Heap.C {α : Type} {d : Kd α} (hd : Heap d) {w w1 : World} {A : Option Addr} {n : Nat} {xs : List α} (hb : ∀ k, k < w.heap.size → w1.heap[k]? = w.heap[k]?) (h : d.C w A n xs) : d.C w1 A n xs :=
  ⟨h.1, h.2.1, fun hn => by
    obtain ⟨ad, e, hc⟩ := h.2.2 hn
    refine ⟨ad, e, fun j p hj => ?_⟩
    obtain ⟨c, hs, hr, hcell⟩ := hc j p hj
    exact ⟨c, hs, hd.K hb hr, fun i u hu => cell_heap hb (hcell i u hu)⟩⟩
theorem heap_int (k : IntKind) : Heap (Kd.int k) := ⟨fun _ h => h⟩
theorem heap_slice {α : Type} {d : Kd α} (e : Nat) (hd : Heap d) : Heap (slice e d) := ⟨by
  rintro w w1 x cs hb ⟨A, c, rfl, hl, hr⟩
  exact ⟨A, c, rfl, hl, hd.C hb hr⟩⟩
theorem heap_pair {α β : Type} {a : Kd α} {b : Kd β} (ha : Heap a) (hb' : Heap b) : Heap (pair a b) := ⟨by
  rintro w w1 x cs hb ⟨c0, c1, rfl, h0, h1⟩
  exact ⟨c0, c1, rfl, ha.K hb h0, hb'.K hb h1⟩⟩
theorem heap_iso {α β : Type} {d : Kd α} (f : β → α) (hd : Heap d) : Heap (iso d f) := ⟨fun hb h => hd.K hb h⟩
section
variable {α : Type} {d : Kd α} {e base g n c : Nat} {ok : Nat → Prop} {w w0 W : World} {A : Option Addr} {xs : List α}
end
end Kd
end Go.Proofs.YtdkkkikcigjlhaaGreatDoorW.PrintWords

/-! ### 45. What a call keeps: all but the blocks of S (the rows that it was given to write) and what is new since -/
namespace Go.Proofs.YtdkkkikcigjlhaaGreatDoorW.PrintWords
open Go.RowKit
def Kept (w W : World) (S : Nat → Prop) : Prop := w.heap.size ≤ W.heap.size ∧ ∀ i, i < w.heap.size → ¬ S i → W.heap[i]? = w.heap[i]?
section
variable {w W W2 : World} {S S2 S' : Nat → Prop}
theorem Kept.refl (w : World) (S : Nat → Prop) : Kept w w S := ⟨Nat.le_refl _, fun _ _ _ => rfl⟩
theorem Kept.of_below (h : Below w.heap.size w W) (S : Nat → Prop) : Kept w W S := ⟨h.size, fun i hi _ => h.block i hi⟩
theorem Kept.mono (h : Kept w W S) (hs : ∀ k, S k → S' k) : Kept w W S' := ⟨h.1, fun i hi hn => h.2 i hi (fun hk => hn (hs i hk))⟩
theorem Kept.then_ (h : Kept w W S) (k : Kept W W2 S2) (hs : ∀ k, S2 k → S k ∨ w.heap.size ≤ k) : Kept w W2 S :=
  ⟨Nat.le_trans h.1 k.1, fun i hi hn => (k.2 i (Nat.lt_of_lt_of_le hi h.1) (fun h2 => (hs i h2).elim hn (fun h3 => by omega))).trans (h.2 i hi hn)⟩
theorem Kept.of_grown {row : Option Nat} (hg : W.grownBy W2 row) (h : Kept w W S) (hr : ∀ k, row = some k → S k ∨ w.heap.size ≤ k) : Kept w W2 S :=
  h.then_ (S2 := fun k => row = some k) ⟨hg.size, fun i hi hn => hg.block i hi (fun he => hn he.symm)⟩ hr
theorem Kept.below (h : Kept w W S) (hb : Below W.heap.size W W2) : Kept w W2 S := h.then_ (Kept.of_below hb (fun _ => False)) (fun _ hk => hk.elim)
theorem Kept.alloc (h : Kept w W S) (o : Obj) : Kept w (W.alloc o) S := h.below (below_alloc (Below.refl _ _) o)
theorem Kept.drew (h : Kept w W S) : Kept w W.drew S := h
theorem Kept.drewN (h : Kept w W S) (m : Nat) : Kept w (W.drewN m) S := h
theorem Kept.setCell (h : Kept w W S) {p : Addr} (hp : S p.block ∨ w.heap.size ≤ p.block) (u : Value) : Kept w (W.setCell p u) S :=
  h.then_ (S2 := fun k => k = p.block) ⟨by simp [World.setCell], fun i _ hn => Below.heap_setCell W p u i hn⟩ (fun k hk => by rw [hk]; exact hp)
theorem Kept.keep {g : Nat} (h : KeepBut w W g none) (k : Kept W W2 S2) (hs : ∀ k, S2 k → w.heap.size ≤ k) : KeepBut w W2 g none :=
  ⟨Nat.le_trans h.1 k.1, fun i hi hg hr => (k.2 i (Nat.lt_of_lt_of_le hi h.1) (fun h2 => by have := hs i h2; omega)).trans (h.2 i hi hg hr)⟩
end
namespace Kd
section
variable {α : Type} {d : Kd α} {e base n c : Nat} {ok oki S S2 : Nat → Prop} {w w0 W W1 W2 : World} {v : Value} {A : Option Addr} {xs : List α} {i : Int} {cs : List Value}
end
end Kd
end Go.Proofs.YtdkkkikcigjlhaaGreatDoorW.PrintWords

/-! ### 46. Values that share: what is only read, with the blocks it lies in (its footprint 'ok'): Foot, F (a row that is read), FK (an element's cells) -/
namespace Go.Proofs.YtdkkkikcigjlhaaGreatDoorW.PrintWords
open Go.RowKit
def Foot (P : World → Prop) (W : World) (ok : Nat → Prop) : Prop := ∀ W' : World, (∀ k, ok k → k < W.heap.size → W'.heap[k]? = W.heap[k]?) → P W'
theorem heap_lt {W W1 : World} {k : Nat} (h : W1.heap[k]? = W.heap[k]?) (hlt : k < W.heap.size) : k < W1.heap.size := by
  rw [Array.getElem?_eq_getElem hlt] at h
  exact (Array.getElem?_eq_some_iff.1 h).1
namespace Foot
variable {P Q : World → Prop} {W W1 : World} {ok ok' : Nat → Prop}
theorem now (h : Foot P W ok) : P W := h W (fun _ _ _ => rfl)
theorem mono (h : Foot P W ok) (hok : ∀ k, ok k → ok' k) : Foot P W ok' := fun W' hW => h W' (fun k hk hlt => hW k (hok k hk) hlt)
theorem bound (h : Foot P W ok) : Foot P W (fun k => ok k ∧ k < W.heap.size) := fun W' hW => h W' (fun k hk hlt => hW k ⟨hk, hlt⟩ hlt)
theorem step (h : Foot P W ok) (hm : ∀ k, ok k → k < W.heap.size → W1.heap[k]? = W.heap[k]?) : Foot P W1 ok := fun W' hW => h W' (fun k hk hlt => (hW k hk (heap_lt (hm k hk hlt) hlt)).trans (hm k hk hlt))
theorem imp (h : Foot P W ok) (hi : ∀ W', P W' → Q W') : Foot Q W ok := fun W' hW => hi W' (h W' hW)
theorem old (h : Foot P W ok) (hb : Below W.heap.size W W1) : Foot P W1 (fun k => ok k ∧ k < W.heap.size) := (h.bound).step (fun k _ hlt => hb.block k hlt)
end Foot
namespace Kd
def F {α : Type} (d : Kd α) (W : World) (ok : Nat → Prop) (A : Option Addr) (n : Nat) (xs : List α) : Prop := Foot (fun W => d.C W A n xs) W ok
def FK {α : Type} (d : Kd α) (W : World) (ok : Nat → Prop) (x : α) (c : List Value) : Prop := Foot (fun W => d.K W x c) W ok
section
variable {α β : Type} {d : Kd α} {e base n n' cc g N : Nat} {ok ok' okp S : Nat → Prop} {w w0 w1 W W1 : World} {A A' : Option Addr} {u v v1 : Value} {xs : List α} {xs' : List β} {d' : Kd β} {x : α} {c : List Value}
theorem F_now (h : F d W ok A n xs) : d.C W A n xs := Foot.now h
theorem F_mono (h : F d W ok A n xs) (hok : ∀ k, ok k → ok' k) : F d W ok' A n xs := Foot.mono h hok
theorem F_bound (h : F d W ok A n xs) : F d W (fun k => ok k ∧ k < W.heap.size) A n xs := Foot.bound h
theorem F_step (h : F d W ok A n xs) (hm : ∀ k, ok k → k < W.heap.size → W1.heap[k]? = W.heap[k]?) : F d W1 ok A n xs := Foot.step h hm
theorem F_imp (h : F d W ok A n xs) (hi : ∀ W', d.C W' A n xs → d'.C W' A' n' xs') : F d' W ok A' n' xs' := Foot.imp h hi
theorem F_below (h : F d W ok A n xs) (hb : Below W.heap.size W W1) : F d W1 ok A n xs := F_step h (fun k _ hlt => hb.block k hlt)
theorem F_alloc (h : F d W ok A n xs) (o : Obj) : F d (W.alloc o) ok A n xs := F_below h (below_alloc (Below.refl _ _) o)
theorem F_drew (h : F d W ok A n xs) : F d W.drew ok A n xs := F_below h (below_drew (Below.refl _ _))
theorem F_drewN (h : F d W ok A n xs) (m : Nat) : F d (W.drewN m) ok A n xs := F_below h (pw_below_drewN (Below.refl _ _) m)
theorem F_nil (d : Kd α) (W : World) (ok : Nat → Prop) : F d W ok none ([] : List α).length [] := fun W' _ => C_nil d W'
theorem F_len (h : F d W ok A n xs) : xs.length = n := (F_now h).1
theorem F_after (h : F d W (fun k => ok k ∧ some k ≠ v.ownBlock) A n xs) (hg : W.grownBy W1 v.ownBlock) (hat : v1.ownBlock = v.ownBlock ∨ ∃ b, v1.ownBlock = some b ∧ W.heap.size ≤ b) : F d W1 (fun k => ok k ∧ some k ≠ v1.ownBlock) A n xs := by
  refine F_mono (Foot.step (F_bound h) (fun k hk hlt => hg.block k hlt hk.1.2)) (fun k hk => ⟨hk.1.1, ?_⟩)
  rcases hat with hat | ⟨b, hb, hle⟩
  · rw [hat]; exact hk.1.2
  · rw [hb]
    intro he
    injection he with he
    have := hk.2
    omega
theorem C_F (hd : Heap d) (h : d.C w A n xs) : F d w (fun k => k < w.heap.size) A n xs := fun _ hW => hd.C (fun k hlt => hW k hlt hlt) h
theorem R_F (h : d.R e W base ok (.slice A n cc) xs) : F d W ok A n xs := fun W' hW => by
  have h2 := R_reads' (R_step h hW)
  rw [h2.1]
  exact h2.2.2
theorem S_F (h : Kd.S d e W base ok (.slice A n cc) xs) : F d W ok A n xs := R_F (S_R h)
theorem FK_now (h : FK d W ok x c) : d.K W x c := Foot.now h
theorem FK_mono (h : FK d W ok x c) (hok : ∀ k, ok k → ok' k) : FK d W ok' x c := Foot.mono h hok
theorem FK_bound (h : FK d W ok x c) : FK d W (fun k => ok k ∧ k < W.heap.size) x c := Foot.bound h
theorem FK_step (h : FK d W ok x c) (hm : ∀ k, ok k → k < W.heap.size → W1.heap[k]? = W.heap[k]?) : FK d W1 ok x c := Foot.step h hm
theorem FK_of_M (h : d.M W base ok x c) : FK d W ok x c := fun _ hW => d.K_of_M (M_step h hW)
theorem emptied (W : World) (g : Nat) : ∃ W' : World, (∀ k, k ≠ g → W'.heap[k]? = W.heap[k]?) ∧ ∀ a : Addr, a.block = g → W'.cell? a = none := by
  refine ⟨{ W with heap := W.heap.setIfInBounds g (.cells #[] 0) }, fun k hk => by simp [Ne.symm hk], fun a ha => ?_⟩
  subst ha
  by_cases hlt : a.block < W.heap.size
  · simp [World.cell?, hlt]
  · simp [World.cell?, hlt]
end
end Kd
end Go.Proofs.YtdkkkikcigjlhaaGreatDoorW.PrintWords

/-! ### 47. N: a row of the call's own whose elements share (what they lead to is only read) -/
namespace Go.Proofs.YtdkkkikcigjlhaaGreatDoorW.PrintWords
open Go.RowKit
namespace Kd
def chunks (sz : Nat) (n : Nat) (inner : List Value) : List (List Value) := (List.range n).map fun j => (inner.drop (j * sz)).take sz
theorem chunks_length (sz n : Nat) (inner : List Value) : (chunks sz n inner).length = n := by simp [chunks]
theorem chunks_at {sz n : Nat} {inner : List Value} {j : Nat} (hj : j < n) : (chunks sz n inner)[j]? = some ((inner.drop (j * sz)).take sz) := by simp [chunks, hj]
theorem chunks_get {sz n : Nat} {inner : List Value} {j : Nat} {c : List Value} (h : (chunks sz n inner)[j]? = some c) : c = (inner.drop (j * sz)).take sz := by
  have hj : j < n := by have := (List.getElem?_eq_some_iff.1 h).1; rwa [chunks_length] at this
  rw [chunks_at hj] at h
  injection h with h
  exact h.symm
theorem reps_raw {α : Type} {Rr : α → List Value → Prop} {sz : Nat} {xs : List α} {inner : List Value} (h : Reps Rr sz xs inner) (hR : ∀ x c, Rr x c → c.length = sz ∧ ∀ u ∈ c, u.oneCell' = true) : Reps (fun x cs => cs = x ∧ cs.length = sz ∧ ∀ u ∈ cs, u.oneCell' = true) sz (chunks sz xs.length inner) inner := by
  refine ⟨by rw [chunks_length]; exact h.1, fun j p hj => ?_⟩
  have hjl : j < xs.length := by have := (List.getElem?_eq_some_iff.1 hj).1; rwa [chunks_length] at this
  have hp := chunks_get hj
  exact ⟨hp.symm, hR _ _ (h.2 j _ (List.getElem?_eq_getElem hjl))⟩
section
variable {α : Type} {d : Kd α} {e base n cc g : Nat} {ok ok' okp S : Nat → Prop} {w w1 W W1 : World} {A : Option Addr} {u v v1 : Value} {xs : List α} {x : α} {c : List Value}
theorem F_get (h : F d W ok A n xs) (z : α) (i : Int) (h0 : 0 ≤ i) (h1 : i < n) :
    ∃ ad c, A = some ad ∧ c.length = d.sz ∧ FK d W ok (xs.getD i.toNat z) c ∧ (∀ j u, c[j]? = some u → W.cell? (ad.add (i.toNat * d.sz + j)) = some u) ∧ (0 < d.sz → ok ad.block) := by
  obtain ⟨ad, c, rfl, hcl, hK, hcc⟩ := C_get (F_now h) z i h0 h1
  have hin : 0 < d.sz → ok ad.block := by
    intro hs
    by_cases hk : ok ad.block
    · exact hk
    · obtain ⟨W', h2, h3⟩ := emptied W ad.block
      obtain ⟨ad', c', he, hcl', _, hcc'⟩ := C_get (h W' (fun k hk' _ => h2 k (fun e => hk (e ▸ hk')))) z i h0 h1
      injection he with he
      subst he
      have h4 := hcc' 0 _ (List.getElem?_eq_getElem (by omega))
      rw [h3 _ (add_block _ _)] at h4
      cases h4
  refine ⟨ad, c, rfl, hcl, fun W' hW => ?_, hcc, hin⟩
  obtain ⟨ad', c', he, hcl', hK', hcc'⟩ := C_get (h W' hW) z i h0 h1
  injection he with he
  subst he
  have hc : c = c' := by
    apply List.ext_getElem?
    intro j
    by_cases hj : j < d.sz
    · have hb : W'.heap[ad.block]? = W.heap[ad.block]? := by
        have h5 := hcc j _ (List.getElem?_eq_getElem (by omega))
        have h6 := World.block_lt_of_cell? W _ h5
        rw [add_block] at h6
        exact hW _ (hin (by omega)) h6
      have h5 := hcc j _ (List.getElem?_eq_getElem (by omega))
      have h6 := hcc' j _ (List.getElem?_eq_getElem (by omega))
      have h7 : W'.cell? (ad.add (i.toNat * d.sz + j)) = W.cell? (ad.add (i.toNat * d.sz + j)) := by simp [World.cell?, add_block, hb]
      rw [h7, h5] at h6
      rw [List.getElem?_eq_getElem (by omega), List.getElem?_eq_getElem (by omega)]
      exact h6
    · rw [List.getElem?_eq_none (by omega), List.getElem?_eq_none (by omega)]
  rw [hc]
  exact hK'
theorem F_rows (h : F d W ok A n xs) : ReadsRow (fun x c => FK d W ok x c) d.sz W A n xs := by
  obtain ⟨hl, hm, hn⟩ := F_now h
  refine ⟨hl, hm, fun hp => ?_⟩
  obtain ⟨ad, rfl, _⟩ := hn hp
  refine ⟨ad, rfl, fun j p hj => ?_⟩
  obtain ⟨hjl, hjp⟩ := List.getElem?_eq_some_iff.1 hj
  obtain ⟨ad', c, he, hcl, hK, hcc, _⟩ := F_get h p (j : Int) (by omega) (by omega)
  injection he with he
  subst he
  simp only [Int.toNat_natCast] at hK hcc
  rw [List.getD_eq_getElem?_getD, hj] at hK
  exact ⟨c, hcl, hK, hcc⟩
def N {α : Type} (d : Kd α) (e : Nat) (w : World) (base : Nat) (ok : Nat → Prop) (v : Value) (xs : List α) : Prop :=
  (∀ k, v.ownBlock = some k → ok k) ∧ ∃ rows : List (List Value), rows.length = xs.length ∧ (raw d.sz).R e w base (fun k => some k = v.ownBlock) v rows ∧ ∀ (j : Nat) (x : α) (c : List Value), xs[j]? = some x → rows[j]? = some c → FK d w (fun k => ok k ∧ some k ≠ v.ownBlock) x c
theorem raw_tight {sz : Nat} {rows : List (List Value)} (h : (raw sz).R e w base ok v rows) : (raw sz).R e w base (fun k => some k = v.ownBlock) v rows := R_tight rfl h
theorem raw_any {sz : Nat} {rows : List (List Value)} (h : (raw sz).R e w base ok v rows) : (raw sz).R e w base (fun _ => True) v rows := R_mono h (fun _ _ => trivial)
theorem R_N (h : d.R e w base ok v xs) : N d e w base ok v xs := by
  obtain ⟨h0, inner, ho, hr⟩ := h
  refine ⟨h0, chunks d.sz xs.length inner, chunks_length _ _ _, ⟨fun k hk => hk.symm, inner, by rw [chunks_length]; exact ho, reps_raw hr (fun x c hp => ⟨d.K_len (d.K_of_M hp), d.K_one (d.K_of_M hp)⟩)⟩, fun j x c hx hc => ?_⟩
  rw [chunks_get hc]
  exact FK_of_M (hr.2 j x hx)
theorem N_nil (d : Kd α) (e : Nat) (w : World) (base : Nat) (ok : Nat → Prop) : N d e w base ok (.slice none 0 0) [] := R_N (R_nil _ _ _ _ _)
theorem N_mono (h : N d e w base ok v xs) (hok : ∀ k, ok k → ok' k) : N d e w base ok' v xs := by
  obtain ⟨h0, rows, hl, hR, hf⟩ := h
  exact ⟨fun k hk => hok k (h0 k hk), rows, hl, hR, fun j x c hx hc => FK_mono (hf j x c hx hc) (fun k hk => ⟨hok k hk.1, hk.2⟩)⟩
theorem N_lt (h : N d e w base ok v xs) : ∀ k, v.ownBlock = some k → k < w.heap.size := by
  obtain ⟨_, rows, _, hR, _⟩ := h
  exact R_lt hR
theorem N_base (h : N d e w base ok v xs) : ∀ k, v.ownBlock = some k → base ≤ k := by
  obtain ⟨_, rows, _, hR, _⟩ := h
  exact R_base hR
theorem N_bound (h : N d e w base ok v xs) : N d e w base (fun k => ok k ∧ k < w.heap.size) v xs := by
  have hlt := N_lt h
  obtain ⟨h0, rows, hl, hR, hf⟩ := h
  exact ⟨fun k hk => ⟨h0 k hk, hlt k hk⟩, rows, hl, hR, fun j x c hx hc => FK_mono (FK_bound (hf j x c hx hc)) (fun k hk => ⟨⟨hk.1.1, hk.2⟩, hk.1.2⟩)⟩
theorem N_step (h : N d e w base ok v xs) (hm : ∀ k, ok k → k < w.heap.size → w1.heap[k]? = w.heap[k]?) : N d e w1 base ok v xs := by
  obtain ⟨h0, rows, hl, hR, hf⟩ := h
  exact ⟨h0, rows, hl, R_step hR (fun k hk hlt => hm k (h0 k hk.symm) hlt), fun j x c hx hc => FK_step (hf j x c hx hc) (fun k hk hlt => hm k hk.1 hlt)⟩
theorem N_below (h : N d e w base ok v xs) (hb : Below w.heap.size w w1) : N d e w1 base ok v xs := N_step h (fun k _ hk => hb.block k hk)
theorem N_alloc (h : N d e w base ok v xs) (o : Obj) : N d e (w.alloc o) base ok v xs := N_below h (below_alloc (Below.refl _ _) o)
theorem N_drew (h : N d e w base ok v xs) : N d e w.drew base ok v xs := N_below h (below_drew (Below.refl _ _))
theorem N_drewN (h : N d e w base ok v xs) (m : Nat) : N d e (w.drewN m) base ok v xs := N_below h (pw_below_drewN (Below.refl _ _) m)
theorem N_slice (h : N d e w base ok v xs) : ∃ A c, v = .slice A xs.length c := by
  obtain ⟨_, rows, hl, hR, _⟩ := h
  obtain ⟨A, c, he⟩ := R_slice hR
  exact ⟨A, c, by rw [he, hl]⟩
theorem N_reads' {n c : Nat} (h : N d e w base ok (.slice A n c) xs) : n = xs.length ∧ n ≤ c ∧ d.C w A xs.length xs := by
  obtain ⟨_, rows, hl, hR, hf⟩ := h
  obtain ⟨hn, hc, hC⟩ := R_reads' hR
  refine ⟨by omega, hc, ?_⟩
  rw [hl] at hC
  refine ⟨rfl, hC.2.1, fun hp => ?_⟩
  obtain ⟨ad, he, hcell⟩ := hC.2.2 hp
  refine ⟨ad, he, fun j p hj => ?_⟩
  have hjl : j < rows.length := by have := (List.getElem?_eq_some_iff.1 hj).1; omega
  obtain ⟨c', hcl, hK, hcc⟩ := hcell j _ (List.getElem?_eq_getElem hjl)
  have hk := FK_now (hf j p _ hj (List.getElem?_eq_getElem hjl))
  refine ⟨c', hcl, ?_, hcc⟩
  rw [show c' = rows[j] from hK.1]
  exact hk
theorem N_F {n : Nat} (h : N d e w base ok (.slice A n cc) xs) : F d w ok A n xs := fun W' hW => by
  have h2 := N_reads' (N_step h hW)
  rw [h2.1]
  exact h2.2.2
end
end Kd
end Go.Proofs.YtdkkkikcigjlhaaGreatDoorW.PrintWords

/-! ### 52. A row that stays read whatever happens to a block (a set of blocks) doesn't lie there -/
namespace Go.Proofs.YtdkkkikcigjlhaaGreatDoorW.PrintWords
open Go.RowKit
namespace Kd
section
variable {α : Type} {d : Kd α} {W : World} {g n : Nat} {S ok : Nat → Prop} {A : Option Addr} {ad : Addr} {xs : List α}
theorem C_not_empty (h : d.C W (some ad) n xs) (hn : 0 < n) (hs : 0 < d.sz) : W.cell? ad ≠ none := by
  obtain ⟨ad', he, hc⟩ := h.2.2 hn
  injection he with he
  subst he
  obtain ⟨c, hcl, _, hcell⟩ := hc 0 _ (List.getElem?_eq_getElem (by rw [h.1]; exact hn))
  have h1 := hcell 0 _ (List.getElem?_eq_getElem (by omega))
  rw [Nat.zero_mul, Nat.zero_add, Addr.add_zero'] at h1
  rw [h1]
  exact Option.some_ne_none _
theorem C_lt (h : d.C W (some ad) n xs) (hn : 0 < n) (hs : 0 < d.sz) : ad.block < W.heap.size := by
  cases hc : W.cell? ad with
  | none => exact absurd hc (C_not_empty h hn hs)
  | some v => exact World.block_lt_of_cell? W ad hc
theorem F_in (h : F d W ok A n xs) {ad : Addr} (hA : A = some ad) (hn : 0 < n) (hs : 0 < d.sz) : ok ad.block := by
  subst hA
  have hl := F_len h
  cases xs with
  | nil => simp at hl; omega
  | cons x r =>
    obtain ⟨ad', c, he, _, _, _, hin⟩ := F_get h x 0 (by omega) (by omega)
    injection he with he
    subst he
    exact hin hs
end
end Kd
end Go.Proofs.YtdkkkikcigjlhaaGreatDoorW.PrintWords

/-! ### 54. Behind orders that were drawn quietly: the same facts at the world's new name; a flat row's foot -/
namespace Go.Proofs.YtdkkkikcigjlhaaGreatDoorW.PrintWords
open Go.RowKit
section
variable {w w' u : World} {m B g : Nat} {o : Obj} {row : Option Nat} {S : Nat → Prop} {a : Addr} {v : Value}
end
namespace Kd
section
variable {α : Type} {d : Kd α} {e base n m : Nat} {ok : Nat → Prop} {w w' : World} {v : Value} {A : Option Addr} {xs : List α}
end
end Kd
end Go.Proofs.YtdkkkikcigjlhaaGreatDoorW.PrintWords

/-! ### 53. '==' of structs as_ one Bool -/
namespace Go.Proofs.YtdkkkikcigjlhaaGreatDoorW.PrintWords
open Go.RowKit
section
variable {P : Program} {d : Nat} {xs ys : Array Value} {f : Field} {fs : List Field} {a b : Value} {r s : Bool} {w : World}
end
end Go.Proofs.YtdkkkikcigjlhaaGreatDoorW.PrintWords

/-! ### 55. Reps told from the front, no append: for rows of one-cell elements and of wider ones -/
namespace Go.Proofs.YtdkkkikcigjlhaaGreatDoorW.PrintWords
theorem Reps.one {α : Type} {R : α → List Value → Prop} {ps : List α} {cs : List Value} {p : α} {v : Value} (hp : R p [v]) (h : Reps R 1 ps cs) : Reps R 1 (p :: ps) (v :: cs) := by
  refine ⟨by simp [h.1], fun j q hq => ?_⟩
  cases j with
  | zero =>
    simp only [List.getElem?_cons_zero, Option.some.injEq] at hq
    subst hq
    simpa using hp
  | succ j =>
    simp only [List.getElem?_cons_succ] at hq
    have h1 := h.2 j q hq
    simpa [Nat.mul_one] using h1
theorem Reps.front {α : Type} {R : α → List Value → Prop} {size : Nat} {ps : List α} {cs c all : List Value} {p : α} (hp : R p c) (hc : c.length = size) (h : Reps R size ps cs) (ha : c ++ cs = all) : Reps R size (p :: ps) all := by
  subst ha
  refine ⟨by rw [List.length_append, hc, h.1, List.length_cons, Nat.succ_mul, Nat.add_comm], fun j q hq => ?_⟩
  cases j with
  | zero =>
    simp only [List.getElem?_cons_zero, Option.some.injEq] at hq
    subst hq
    rw [Nat.zero_mul, List.drop_zero, List.take_append_of_le_length (by omega), List.take_of_length_le (by omega)]
    exact hp
  | succ j =>
    simp only [List.getElem?_cons_succ] at hq
    have h1 := h.2 j q hq
    rw [Nat.succ_mul, List.drop_append, List.drop_of_length_le (by rw [hc]; exact Nat.le_add_left _ _), List.nil_append, hc, Nat.add_sub_cancel]
    exact h1
theorem Reps.c2 {α : Type} {R : α → List Value → Prop} {ps : List α} {cs : List Value} {p : α} {va vb : Value} (hp : R p [va, vb]) (h : Reps R 2 ps cs) : Reps R 2 (p :: ps) (va :: vb :: cs) := Reps.front hp rfl h rfl
theorem Reps.c3 {α : Type} {R : α → List Value → Prop} {ps : List α} {cs : List Value} {p : α} {va vb vc : Value} (hp : R p [va, vb, vc]) (h : Reps R 3 ps cs) : Reps R 3 (p :: ps) (va :: vb :: vc :: cs) := Reps.front hp rfl h rfl
theorem Reps.c4 {α : Type} {R : α → List Value → Prop} {ps : List α} {cs : List Value} {p : α} {va vb vc vd : Value} (hp : R p [va, vb, vc, vd]) (h : Reps R 4 ps cs) : Reps R 4 (p :: ps) (va :: vb :: vc :: vd :: cs) := Reps.front hp rfl h rfl
theorem Reps.c5 {α : Type} {R : α → List Value → Prop} {ps : List α} {cs : List Value} {p : α} {va vb vc vd ve : Value} (hp : R p [va, vb, vc, vd, ve]) (h : Reps R 5 ps cs) : Reps R 5 (p :: ps) (va :: vb :: vc :: vd :: ve :: cs) := Reps.front hp rfl h rfl
theorem Reps.c6 {α : Type} {R : α → List Value → Prop} {ps : List α} {cs : List Value} {p : α} {va vb vc vd ve vf : Value} (hp : R p [va, vb, vc, vd, ve, vf]) (h : Reps R 6 ps cs) : Reps R 6 (p :: ps) (va :: vb :: vc :: vd :: ve :: vf :: cs) := Reps.front hp rfl h rfl
theorem Reps.c7 {α : Type} {R : α → List Value → Prop} {ps : List α} {cs : List Value} {p : α} {va vb vc vd ve vf vg : Value} (hp : R p [va, vb, vc, vd, ve, vf, vg]) (h : Reps R 7 ps cs) : Reps R 7 (p :: ps) (va :: vb :: vc :: vd :: ve :: vf :: vg :: cs) := Reps.front hp rfl h rfl
theorem Reps.c8 {α : Type} {R : α → List Value → Prop} {ps : List α} {cs : List Value} {p : α} {va vb vc vd ve vf vg vh : Value} (hp : R p [va, vb, vc, vd, ve, vf, vg, vh]) (h : Reps R 8 ps cs) : Reps R 8 (p :: ps) (va :: vb :: vc :: vd :: ve :: vf :: vg :: vh :: cs) := Reps.front hp rfl h rfl
theorem Reps.c9 {α : Type} {R : α → List Value → Prop} {ps : List α} {cs : List Value} {p : α} {va vb vc vd ve vf vg vh vi : Value} (hp : R p [va, vb, vc, vd, ve, vf, vg, vh, vi]) (h : Reps R 9 ps cs) : Reps R 9 (p :: ps) (va :: vb :: vc :: vd :: ve :: vf :: vg :: vh :: vi :: cs) := Reps.front hp rfl h rfl
theorem Reps.c10 {α : Type} {R : α → List Value → Prop} {ps : List α} {cs : List Value} {p : α} {va vb vc vd ve vf vg vh vi vj : Value} (hp : R p [va, vb, vc, vd, ve, vf, vg, vh, vi, vj]) (h : Reps R 10 ps cs) : Reps R 10 (p :: ps) (va :: vb :: vc :: vd :: ve :: vf :: vg :: vh :: vi :: vj :: cs) := Reps.front hp rfl h rfl
end Go.Proofs.YtdkkkikcigjlhaaGreatDoorW.PrintWords

/-! ### 57. A region of open order by ONE relation over what is listed so far: each operation is shown once, whatever came up before it -/
namespace Go.Proofs.YtdkkkikcigjlhaaGreatDoorW.PrintLast
def up (b : Nat → Bool) (i : Nat) : Nat → Bool := fun j => if j = i then true else b j
section
variable {P : Program} {ops : Array Oper} {Q : Exit → Act → World → Prop} {md : Region.Mode} {T : Bool × List (List Nat × List Nat)} {B : List Nat} {O : List Nat} {b : Nat → Bool} {i j n : Nat}
/-! The frame: what is listed has its destination filled. -/
end
end Go.Proofs.YtdkkkikcigjlhaaGreatDoorW.PrintLast

namespace Go.Proofs.YtdkkkikcigjlhaaGreatDoorW.PrintWords
open Go.RowKit
end Go.Proofs.YtdkkkikcigjlhaaGreatDoorW.PrintWords
namespace Go.Proofs.YtdkkkikcigjlhaaGreatDoorW.PrintLast
section
variable {ops : Array Oper} {a : Act} {o og : Oper} {g : Nat} {t : Tmp} {u : Bool}
end
end Go.Proofs.YtdkkkikcigjlhaaGreatDoorW.PrintLast

/-! ### 58. A guarded operation whose guard is known to want it: the same goal without the guard -/
namespace Go.Proofs.YtdkkkikcigjlhaaGreatDoorW.PrintWords
open Go.RowKit
section
variable {P : Program} {ops : Array Oper} {rest : List Oper} {o : Oper} {a : Act} {Q : Exit → Act → World → Prop} {W : World}
end
end Go.Proofs.YtdkkkikcigjlhaaGreatDoorW.PrintWords
