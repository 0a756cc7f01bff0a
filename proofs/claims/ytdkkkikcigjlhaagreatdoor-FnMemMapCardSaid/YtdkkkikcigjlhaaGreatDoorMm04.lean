/- A skip list as a list of nodes: what its links are, and what becomes of them. No program in sight. Comparing rows of bytes, as plain lists of integers: an order of three values. Written for the seat YtdkkkikcigjlhaaGreatDoor. A search in a skip list: what it stands on at each level. No program in sight. A cursor on a list of pairs, pure: its places and its moves. What the library's body-less comparison of bytes tells of two slices that are read. Written for the seat YtdkkkikcigjlhaaGreatDoor. The comparers' own contracts. Written for the seat YtdkkkikcigjlhaaGreatDoor. Small words of this seat: rows of bytes, cells, cuts. -/
import Derived.IntWalk
import Derived.Test.YtdkkkikcigjlhaaGreatDoorWMore
import Derived.Lib.Bytealg
import Derived.WalkKit
import Derived.Below
import Derived.Test.YtdkkkikcigjlhaaGreatDoorProg
import Derived.WalkSpells
import Derived.WalkLawsBesides
import Derived.KernelRfl
import Derived.Deep.QuietTactic
import Derived.BigQuiet
import Derived.Handy
import Derived.Lib.Hide
import Derived.Deep.RegionHeld3
import Derived.Lib.QuietBelow
import Derived.Lib.SliceRun
import Derived.LoopTactic
import Derived.Deep.DeepCutAuto
import Derived.StillTailTactics
import Derived.Deep.RegionLaw
set_option linter.unusedVariables false
set_option linter.unusedSimpArgs false
namespace Go.Proofs.YtdkkkikcigjlhaaGreatDoor.Md

structure Node where
  a : Nat
  h : Nat
  key : List Int
  val : List Int

def nxt (i : Nat) : List Node → Nat
  | [] => 0
  | x :: r => if i < x.h then x.a else nxt i r

def prv (i : Nat) (l : List Node) : Nat := nxt i l.reverse

def G (l : List Int) (i : Nat) : Int := l.getD i 0

theorem nxt_app (i : Nat) (A B : List Node) (hA : ∀ x ∈ A, x.h ≤ i) : nxt i (A ++ B) = nxt i B := by
  induction A with
  | nil => rfl
  | cons x A ih =>
    have h1 : ¬ i < x.h := Nat.not_lt.2 (hA x List.mem_cons_self)
    simp only [List.cons_append, nxt, if_neg h1]
    exact ih fun y hy => hA y (List.mem_cons_of_mem _ hy)

theorem nxt_hit (i : Nat) (A B : List Node) (x : Node) (hA : ∀ y ∈ A, y.h ≤ i) (hx : i < x.h) : nxt i (A ++ x :: B) = x.a := by
  rw [nxt_app i A _ hA]
  simp [nxt, hx]

theorem nxt_of (i : Nat) (A B : List Node) (hA : ∃ y ∈ A, i < y.h) : nxt i (A ++ B) = nxt i A := by
  induction A with
  | nil => obtain ⟨y, hy, _⟩ := hA; cases hy
  | cons x A ih =>
    simp only [List.cons_append, nxt]
    split
    · rfl
    · rename_i hn
      obtain ⟨y, hy, hi⟩ := hA
      rcases List.mem_cons.1 hy with rfl | hy
      · exact absurd hi hn
      · exact ih ⟨y, hy, hi⟩

theorem split_first (i : Nat) (l : List Node) : (∀ x ∈ l, x.h ≤ i) ∨ ∃ A x B, l = A ++ x :: B ∧ (∀ y ∈ A, y.h ≤ i) ∧ i < x.h := by
  induction l with
  | nil => exact .inl (by simp)
  | cons x l ih =>
    by_cases h : i < x.h
    · exact .inr ⟨[], x, l, rfl, by simp, h⟩
    · rcases ih with h1 | ⟨A, y, B, rfl, h1, h2⟩
      · refine .inl fun y hy => ?_
        rcases List.mem_cons.1 hy with rfl | hy
        · omega
        · exact h1 y hy
      · refine .inr ⟨x :: A, y, B, rfl, fun z hz => ?_, h2⟩
        rcases List.mem_cons.1 hz with rfl | hz
        · omega
        · exact h1 z hz

theorem split_last (i : Nat) (l : List Node) : (∀ x ∈ l, x.h ≤ i) ∨ ∃ A x B, l = A ++ x :: B ∧ (∀ y ∈ B, y.h ≤ i) ∧ i < x.h := by
  rcases split_first i l.reverse with h | ⟨A, x, B, h, h1, h2⟩
  · exact .inl fun x hx => h x (List.mem_reverse.2 hx)
  · refine .inr ⟨B.reverse, x, A.reverse, ?_, fun y hy => h1 y (List.mem_reverse.1 hy), h2⟩
    have := congrArg List.reverse h
    simpa using this

theorem prv_none (i : Nat) (l : List Node) (h : ∀ x ∈ l, x.h ≤ i) : prv i l = 0 := by
  have := nxt_app i l.reverse [] (fun x hx => h x (List.mem_reverse.1 hx))
  simpa [prv, nxt] using this

theorem nxt_none (i : Nat) (l : List Node) (h : ∀ x ∈ l, x.h ≤ i) : nxt i l = 0 := by
  have := nxt_app i l [] h
  simpa [nxt] using this

theorem prv_hit (i : Nat) (A B : List Node) (x : Node) (hB : ∀ y ∈ B, y.h ≤ i) (hx : i < x.h) : prv i (A ++ x :: B) = x.a := by
  have := nxt_hit i B.reverse A.reverse x (fun y hy => hB y (List.mem_reverse.1 hy)) hx
  simpa [prv] using this

theorem prv_low (i : Nat) (A B : List Node) (hB : ∀ y ∈ B, y.h ≤ i) : prv i (A ++ B) = prv i A := by
  have := nxt_app i B.reverse A.reverse (fun y hy => hB y (List.mem_reverse.1 hy))
  simpa [prv] using this

theorem prv_of (i : Nat) (A B : List Node) (hB : ∃ y ∈ B, i < y.h) : prv i (A ++ B) = prv i B := by
  obtain ⟨y, hy, h⟩ := hB
  have := nxt_of i B.reverse A.reverse ⟨y, List.mem_reverse.2 hy, h⟩
  simpa [prv] using this

theorem prv_down (i : Nat) (P : List Node) : ∃ A B, P = A ++ B ∧ (∀ y ∈ B, y.h ≤ i) ∧ ∀ j, j ≤ i → prv j A = prv i P := by
  rcases split_last i P with h | ⟨A, x, B, rfl, h1, h2⟩
  · exact ⟨[], P, rfl, h, fun j hj => by rw [prv_none i P h]; rfl⟩
  · refine ⟨A ++ [x], B, by simp, h1, fun j hj => ?_⟩
    rw [prv_hit i A B x h1 h2]
    exact prv_hit j A [] x (by simp) (by omega)

def Links (nd : List Int) (ns : List Node) : Prop := ∀ P R, ns = P ++ R → ∀ i, i < 12 → G nd (prv i P + 4 + i) = ((nxt i R : Nat) : Int)

structure NodeOk (nd kv : List Int) (mh : Nat) (x : Node) : Prop where
  a : 16 ≤ x.a
  h1 : 1 ≤ x.h
  hm : x.h ≤ mh
  end_ : x.a + 4 + x.h ≤ nd.length
  cell : ∃ o : Nat, G nd x.a = (o : Int) ∧ o + x.key.length + x.val.length ≤ kv.length ∧ (kv.drop o).take x.key.length = x.key ∧ (kv.drop (o + x.key.length)).take x.val.length = x.val
  kl : G nd (x.a + 1) = (x.key.length : Int)
  vl : G nd (x.a + 2) = (x.val.length : Int)
  ht : G nd (x.a + 3) = (x.h : Int)

def Apart (x y : Node) : Prop := x.a + 4 + x.h ≤ y.a ∨ y.a + 4 + y.h ≤ x.a

structure Skip (nd kv : List Int) (mh : Nat) (ns : List Node) : Prop where
  links : Links nd ns
  ok : ∀ x ∈ ns, NodeOk nd kv mh x
  apart : ns.Pairwise Apart
  m1 : 1 ≤ mh
  m12 : mh ≤ 12
  len : 16 ≤ nd.length
  zero : G nd 0 = 0

theorem G_set_same {l : List Int} {i : Nat} (h : i < l.length) (v : Int) : G (l.set i v) i = v := by
  simp [G, List.getD_eq_getElem?_getD, h]

theorem G_set_ne {l : List Int} {i j : Nat} (h : i ≠ j) (v : Int) : G (l.set i v) j = G l j := by
  simp [G, List.getD_eq_getElem?_getD, List.getElem?_set_ne h]

theorem G_app_lt {l m : List Int} {i : Nat} (h : i < l.length) : G (l ++ m) i = G l i := by
  simp [G, List.getD_eq_getElem?_getD, List.getElem?_append_left h]

theorem G_app_ge {l m : List Int} (i : Nat) : G (l ++ m) (l.length + i) = G m i := by
  simp [G, List.getD_eq_getElem?_getD, List.getElem?_append_right]

theorem prv_is (i : Nat) (P : List Node) : prv i P = 0 ∨ ∃ x ∈ P, i < x.h ∧ prv i P = x.a := by
  rcases split_last i P with h | ⟨A, x, B, rfl, h1, h2⟩
  · exact .inl (prv_none i P h)
  · exact .inr ⟨x, by simp, h2, prv_hit i A B x h1 h2⟩

theorem nxt_is (i : Nat) (P : List Node) : nxt i P = 0 ∨ ∃ x ∈ P, i < x.h ∧ nxt i P = x.a := by
  rcases split_first i P with h | ⟨A, x, B, rfl, h1, h2⟩
  · exact .inl (nxt_none i P h)
  · exact .inr ⟨x, by simp, h2, nxt_hit i A B x h1 h2⟩

theorem Skip.slot {nd kv : List Int} {mh : Nat} {ns P R : List Node} (h : Skip nd kv mh ns) (e : ns = P ++ R) {i : Nat} (hi : i < 12) : prv i P + 4 + i < nd.length := by
  rcases prv_is i P with h0 | ⟨x, hx, h1, h2⟩
  · rw [h0]; have := h.len; omega
  · have := (h.ok x (by rw [e]; exact List.mem_append_left _ hx)).end_
    omega

theorem pair_ne {ns : List Node} (h : ns.Pairwise Apart) {x y : Node} (hx : x ∈ ns) (hy : y ∈ ns) : x = y ∨ Apart x y := by
  induction h with
  | nil => cases hx
  | @cons z l h1 h2 ih =>
    rcases List.mem_cons.1 hx with hxe | hx <;> rcases List.mem_cons.1 hy with hye | hy
    · exact .inl (hxe.trans hye.symm)
    · exact .inr (hxe ▸ h1 _ hy)
    · rw [hye]
      rcases h1 x hx with q | q
      · exact .inr (.inr q)
      · exact .inr (.inl q)
    · exact ih hx hy

theorem Skip.inj {nd kv : List Int} {mh : Nat} {ns : List Node} (h : Skip nd kv mh ns) {u v i j : Nat} (hu : (u = 0 ∧ i < 12) ∨ ∃ x ∈ ns, i < x.h ∧ u = x.a) (hv : (v = 0 ∧ j < 12) ∨ ∃ x ∈ ns, j < x.h ∧ v = x.a) (e : u + 4 + i = v + 4 + j) : u = v ∧ i = j := by
  rcases hu with ⟨rfl, h1⟩ | ⟨x, hx, h1, rfl⟩ <;> rcases hv with ⟨rfl, h2⟩ | ⟨y, hy, h2, rfl⟩
  · omega
  · have := (h.ok y hy).a; omega
  · have := (h.ok x hx).a; omega
  · rcases pair_ne h.apart hx hy with rfl | q | q
    · omega
    · omega
    · omega

theorem Skip.prv_slot {nd kv : List Int} {mh : Nat} {ns P R : List Node} (h : Skip nd kv mh ns) (e : ns = P ++ R) {i : Nat} (hi : i < 12) : (prv i P = 0 ∧ i < 12) ∨ ∃ x ∈ ns, i < x.h ∧ prv i P = x.a := by
  rcases prv_is i P with h0 | ⟨x, hx, h1, h2⟩
  · exact .inl ⟨h0, hi⟩
  · exact .inr ⟨x, by rw [e]; exact List.mem_append_left _ hx, h1, h2⟩

theorem Skip.cell_ne {nd kv : List Int} {mh : Nat} {ns : List Node} (h : Skip nd kv mh ns) {x : Node} (hx : x ∈ ns) {u i t : Nat} (hu : (u = 0 ∧ i < 12) ∨ ∃ y ∈ ns, i < y.h ∧ u = y.a) (ht : t < 4) : u + 4 + i ≠ x.a + t := by
  have ha := (h.ok x hx).a
  rcases hu with ⟨rfl, h1⟩ | ⟨y, hy, h1, rfl⟩
  · omega
  · rcases pair_ne h.apart hx hy with rfl | q | q <;> omega

theorem Skip.two_ne {nd kv : List Int} {mh : Nat} {ns : List Node} (h : Skip nd kv mh ns) {x y : Node} (hx : x ∈ ns) (hy : y ∈ ns) {s t : Nat} (hs : s < 4) (ht : t < 4) (hst : s ≠ t ∨ x ≠ y) : x.a + s ≠ y.a + t := by
  rcases pair_ne h.apart hx hy with rfl | q | q
  · rcases hst with q | q
    · omega
    · exact absurd rfl q
  · omega
  · omega

def putStep (node q i : Nat) (nd : List Int) : List Int := (nd ++ [G nd (q + 4 + i)]).set (q + 4 + i) (node : Int)

def putN (node : Nat) (P : List Node) : Nat → List Int → List Int
  | 0, nd => nd
  | n + 1, nd => putStep node (prv n P) n (putN node P n nd)

theorem putN_len (node : Nat) (P : List Node) (nd : List Int) (n : Nat) : (putN node P n nd).length = nd.length + n := by
  induction n with
  | zero => rfl
  | succ n ih => simp [putN, putStep, ih]; omega

structure PutTold (nd0 nd1 : List Int) (L : Nat) (P R : List Node) (n : Nat) : Prop where
  len : nd1.length = L + 4 + n
  hit : ∀ i, i < n → G nd1 (prv i P + 4 + i) = (L : Int)
  keep : ∀ k, k < L + 4 → (∀ i, i < n → k ≠ prv i P + 4 + i) → G nd1 k = G nd0 k
  new : ∀ i, i < n → G nd1 (L + 4 + i) = ((nxt i R : Nat) : Int)

theorem put_told {nd kv : List Int} {mh : Nat} {ns P R : List Node} (h : Skip nd kv mh ns) (e : ns = P ++ R) (xs : List Int) (hx : xs.length = 4) (n : Nat) (hn : n ≤ 12) : PutTold (nd ++ xs) (putN nd.length P n (nd ++ xs)) nd.length P R n := by
  induction n with
  | zero => exact ⟨by simp [putN, hx], by omega, fun k _ _ => rfl, by omega⟩
  | succ n ih =>
    have ih := ih (by omega)
    have hs := h.slot e (i := n) (by omega)
    have hl := ih.len
    have hne : ∀ i, i < n → prv n P + 4 + n ≠ prv i P + 4 + i := fun i hi q => by
      have := (h.inj (h.prv_slot e (i := n) (by omega)) (h.prv_slot e (i := i) (by omega)) q).2
      omega
    have hold : G (putN nd.length P n (nd ++ xs)) (prv n P + 4 + n) = ((nxt n R : Nat) : Int) := by
      rw [ih.keep _ (by omega) hne, G_app_lt hs]
      exact h.links P R e n (by omega)
    refine ⟨by simp [putN, putStep, hl]; omega, fun i hi => ?_, fun k hk hkn => ?_, fun i hi => ?_⟩
    · simp only [putN, putStep]
      by_cases q : i = n
      · subst q
        exact G_set_same (by simp [hl]; omega) _
      · rw [G_set_ne (hne i (by omega)), G_app_lt (by have := h.slot e (i := i) (by omega); omega)]
        exact ih.hit i (by omega)
    · simp only [putN, putStep]
      rw [G_set_ne (Ne.symm (hkn n (by omega))), G_app_lt (by omega)]
      exact ih.keep k hk fun i hi => hkn i (by omega)
    · simp only [putN, putStep]
      rw [G_set_ne (by omega)]
      by_cases q : i = n
      · subst q
        have := G_app_ge (l := putN nd.length P i (nd ++ xs)) (m := [G (putN nd.length P i (nd ++ xs)) (prv i P + 4 + i)]) 0
        rw [show nd.length + 4 + i = (putN nd.length P i (nd ++ xs)).length + 0 from by omega, this, hold]
        rfl
      · rw [G_app_lt (by omega)]
        exact ih.new i (by omega)

theorem mem_split {ns P R : List Node} (e : ns = P ++ R) : (∀ x ∈ P, x ∈ ns) ∧ ∀ x ∈ R, x ∈ ns := by
  subst e
  exact ⟨fun x hx => List.mem_append_left _ hx, fun x hx => List.mem_append_right _ hx⟩

theorem links_put {nd kv : List Int} {mh : Nat} {ns P R : List Node} (h : Skip nd kv mh ns) (e : ns = P ++ R) {nd0 nd1 : List Int} {z : Node} (hza : z.a = nd.length) (hzh : z.h ≤ 12) (ht : PutTold nd0 nd1 nd.length P R z.h) (h0 : ∀ k, k < nd.length → G nd0 k = G nd k) : Links nd1 (P ++ z :: R) := by
  intro P' R' e' i hi
  rcases List.append_eq_append_iff.1 e' with ⟨C, hC1, hC2⟩ | ⟨C, hC1, hC2⟩
  · -- the place is behind z's beginning
    cases C with
    | nil =>
      simp only [List.append_nil] at hC1
      simp only [List.nil_append] at hC2
      subst hC1 hC2
      by_cases q : i < z.h
      · rw [ht.hit i q, nxt, if_pos q, hza]
      · rw [ht.keep _ (by have := h.slot e hi; omega) ?_, h0 _ (h.slot e hi), h.links P' R e i hi, nxt, if_neg q]
        intro j hj q2
        have := (h.inj (h.prv_slot e hi) (h.prv_slot e (i := j) (by omega)) q2).2
        omega
    | cons c C =>
      simp only [List.cons_append, List.cons.injEq] at hC2
      obtain ⟨rfl, hC2⟩ := hC2
      subst hC1
      have e2 : ns = (P ++ C) ++ R' := by rw [e, hC2, List.append_assoc]
      by_cases q : ∃ y ∈ C, i < y.h
      · have q1 : prv i (P ++ z :: C) = prv i (P ++ C) := by
          rw [prv_of i P C q, show P ++ z :: C = (P ++ [z]) ++ C from by simp, prv_of i (P ++ [z]) C q]
        rw [q1, ht.keep _ (by have := h.slot e2 hi; omega) ?_, h0 _ (h.slot e2 hi), h.links (P ++ C) R' e2 i hi]
        intro j hj q2
        have q3 := h.inj (h.prv_slot e2 hi) (h.prv_slot e (i := j) (by omega)) q2
        obtain ⟨q4, rfl⟩ := q3
        rw [prv_of i P C q] at q4
        rcases prv_is i C with w0 | ⟨y, hy, y1, y2⟩
        · rcases split_last i C with u | ⟨A, x, B, u, u1, u2⟩
          · obtain ⟨y, hy, y1⟩ := q
            have := u y hy
            omega
          · have hxm : x ∈ ns := (mem_split e).2 x (by rw [hC2, u]; simp)
            have := (h.ok x hxm).a
            rw [u, prv_hit i A B x u1 u2] at w0
            omega
        · rw [y2] at q4
          have hyR : y ∈ R := by rw [hC2]; exact List.mem_append_left _ hy
          have hyn := (mem_split e).2 y hyR
          have hya := (h.ok y hyn).a
          rcases prv_is i P with w0 | ⟨x, hx, x1, x2⟩
          · omega
          · rw [x2] at q4
            have hap := h.apart
            rw [e] at hap
            have := (List.pairwise_append.1 hap).2.2 x hx y hyR
            rcases this with v | v <;> omega
      · have hlow : ∀ y ∈ C, y.h ≤ i := fun y hy => Nat.not_lt.1 fun q2 => q ⟨y, hy, q2⟩
        have hR : nxt i R = nxt i R' := by rw [hC2]; exact nxt_app i C R' hlow
        by_cases q2 : i < z.h
        · rw [prv_hit i P C z hlow q2, hza, ht.new i q2, hR]
        · have q3 : prv i (P ++ z :: C) = prv i P := by
            refine prv_low i P (z :: C) fun y hy => ?_
            rcases List.mem_cons.1 hy with rfl | hy
            · omega
            · exact hlow y hy
          rw [q3, ht.keep _ (by have := h.slot e hi; omega) ?_, h0 _ (h.slot e hi), h.links P R e i hi, hR]
          intro j hj q4
          have := (h.inj (h.prv_slot e hi) (h.prv_slot e (i := j) (by omega)) q4).2
          omega
  · -- the place is ahead of z
    subst hC2
    have e2 : ns = P' ++ (C ++ R) := by rw [e, hC1, List.append_assoc]
    by_cases q : ∃ y ∈ C, i < y.h
    · rw [ht.keep _ (by have := h.slot e2 hi; omega) ?_, h0 _ (h.slot e2 hi), h.links P' (C ++ R) e2 i hi, nxt_of i C _ q, nxt_of i C _ q]
      intro j hj q2
      obtain ⟨q4, rfl⟩ := h.inj (h.prv_slot e2 hi) (h.prv_slot e (i := j) (by omega)) q2
      rw [hC1, prv_of i P' C q] at q4
      rcases split_last i C with u | ⟨A, y, B, u, u1, u2⟩
      · obtain ⟨y, hy, y1⟩ := q
        have := u y hy
        omega
      · rw [u, prv_hit i A B y u1 u2] at q4
        have hyC : y ∈ C := by rw [u]; simp
        have hyn : y ∈ ns := by rw [e, hC1]; simp [hyC]
        have hya := (h.ok y hyn).a
        rcases prv_is i P' with w0 | ⟨x, hx, x1, x2⟩
        · omega
        · rw [x2] at q4
          have hap := h.apart
          rw [e2] at hap
          have := (List.pairwise_append.1 hap).2.2 x hx y (List.mem_append_left _ hyC)
          rcases this with v | v <;> omega
    · have hlow : ∀ y ∈ C, y.h ≤ i := fun y hy => Nat.not_lt.1 fun q2 => q ⟨y, hy, q2⟩
      have hp : prv i P' = prv i P := by rw [hC1, prv_low i P' C hlow]
      by_cases q2 : i < z.h
      · rw [hp, ht.hit i q2, nxt_hit i C R z hlow q2, hza]
      · rw [hp, ht.keep _ (by have := h.slot e hi; omega) ?_, h0 _ (h.slot e hi), h.links P R e i hi, nxt_app i C _ hlow, nxt, if_neg q2]
        intro j hj q4
        have := (h.inj (h.prv_slot e hi) (h.prv_slot e (i := j) (by omega)) q4).2
        omega

theorem NodeOk.keep {nd nd' kv kv' : List Int} {mh mh' : Nat} {x : Node} (h : NodeOk nd kv mh x) (hg : ∀ t, t < 4 → G nd' (x.a + t) = G nd (x.a + t)) (hl : nd.length ≤ nd'.length) (hm : mh ≤ mh') (t : List Int) (hk : kv' = kv ++ t) : NodeOk nd' kv' mh' x := by
  obtain ⟨o, h1, h2, h3, h4⟩ := h.cell
  refine ⟨h.a, h.h1, Nat.le_trans h.hm hm, Nat.le_trans h.end_ hl, ⟨o, (hg 0 (by omega)).trans h1, by rw [hk, List.length_append]; omega, ?_, ?_⟩, (hg 1 (by omega)).trans h.kl, (hg 2 (by omega)).trans h.vl, (hg 3 (by omega)).trans h.ht⟩
  · rw [hk, List.drop_append_of_le_length (by omega), List.take_append_of_le_length (by rw [List.length_drop]; omega)]
    exact h3
  · rw [hk, List.drop_append_of_le_length (by omega), List.take_append_of_le_length (by rw [List.length_drop]; omega)]
    exact h4

theorem skip_put {nd kv : List Int} {mh : Nat} {ns P R : List Node} (h : Skip nd kv mh ns) (e : ns = P ++ R) (key val : List Int) (n mh' : Nat) (h1 : 1 ≤ n) (h2 : n ≤ 12) (h3 : n ≤ mh') (h4 : mh ≤ mh') (h5 : mh' ≤ 12) :
    Skip (putN nd.length P n (nd ++ [(kv.length : Int), (key.length : Int), (val.length : Int), (n : Int)])) (kv ++ (key ++ val)) mh' (P ++ ⟨nd.length, n, key, val⟩ :: R) := by
  have ht := put_told h e [(kv.length : Int), (key.length : Int), (val.length : Int), (n : Int)] rfl n h2
  generalize hnd1 : putN nd.length P n (nd ++ [(kv.length : Int), (key.length : Int), (val.length : Int), (n : Int)]) = nd1 at ht
  have hold : ∀ k, k < nd.length → G (nd ++ [(kv.length : Int), (key.length : Int), (val.length : Int), (n : Int)]) k = G nd k := fun k hk => G_app_lt hk
  have hz : ∀ t, t < 4 → G nd1 (nd.length + t) = G [(kv.length : Int), (key.length : Int), (val.length : Int), (n : Int)] t := fun t ht4 => by
    rw [ht.keep _ (by omega) (fun i hi => by have := h.slot e (i := i) (by omega); omega)]
    exact G_app_ge t
  have hl := ht.len
  have hlen := h.len
  have hok : ∀ x ∈ ns, NodeOk nd1 (kv ++ (key ++ val)) mh' x := fun x hx =>
    (h.ok x hx).keep (fun t ht4 => by
      have := (h.ok x hx).end_
      have := (h.ok x hx).h1
      rw [ht.keep _ (by omega) (fun i hi => Ne.symm (h.cell_ne hx (h.prv_slot e (i := i) (by omega)) ht4)), hold _ (by omega)]) (by omega) h4 _ rfl
  refine ⟨links_put h e (z := ⟨nd.length, n, key, val⟩) rfl h2 ht hold, ?_, ?_, Nat.le_trans h.m1 h4, h5, by omega, ?_⟩
  · intro x hx
    rcases List.mem_append.1 hx with q | q
    · exact hok x ((mem_split e).1 x q)
    · rcases List.mem_cons.1 q with rfl | q
      · refine ⟨h.len, h1, h3, by show nd.length + 4 + n ≤ _; omega, ⟨kv.length, (hz 0 (by omega)), by simp; omega, ?_, ?_⟩, hz 1 (by omega), hz 2 (by omega), hz 3 (by omega)⟩
        · simp
        · simp
      · exact hok x ((mem_split e).2 x q)
  · have hap := h.apart
    rw [e] at hap
    obtain ⟨p1, p2, p3⟩ := List.pairwise_append.1 hap
    refine List.pairwise_append.2 ⟨p1, List.pairwise_cons.2 ⟨fun y hy => .inr ?_, p2⟩, fun x hx y hy => ?_⟩
    · exact (h.ok y ((mem_split e).2 y hy)).end_
    · rcases List.mem_cons.1 hy with rfl | hy
      · exact .inl (h.ok x ((mem_split e).1 x hx)).end_
      · exact p3 x hx y hy
  · rw [ht.keep 0 (by omega) (fun i hi => by omega), hold 0 (by omega)]
    exact h.zero

def delStep (q i : Nat) (nd : List Int) : List Int := nd.set (q + 4 + i) (G nd ((G nd (q + 4 + i)).toNat + 4 + i))

def delN (P : List Node) : Nat → List Int → List Int
  | 0, nd => nd
  | n + 1, nd => delStep (prv n P) n (delN P n nd)

theorem delN_len (P : List Node) (nd : List Int) (n : Nat) : (delN P n nd).length = nd.length := by
  induction n with
  | zero => rfl
  | succ n ih => simp [delN, delStep, ih]

structure DelTold (nd nd1 : List Int) (P R : List Node) (n : Nat) : Prop where
  len : nd1.length = nd.length
  hit : ∀ i, i < n → G nd1 (prv i P + 4 + i) = ((nxt i R : Nat) : Int)
  keep : ∀ k, (∀ i, i < n → k ≠ prv i P + 4 + i) → G nd1 k = G nd k

theorem del_told {nd kv : List Int} {mh : Nat} {ns P R : List Node} {x : Node} (h : Skip nd kv mh ns) (e : ns = P ++ x :: R) (n : Nat) (hn : n ≤ x.h) : DelTold nd (delN P n nd) P R n := by
  have hxn : x ∈ ns := by rw [e]; simp
  have hx12 : x.h ≤ 12 := Nat.le_trans (h.ok x hxn).hm h.m12
  induction n with
  | zero => exact ⟨rfl, by omega, fun k _ => rfl⟩
  | succ n ih =>
    have ih := ih (by omega)
    have hs := h.slot e (i := n) (by omega)
    have hl := ih.len
    have hne : ∀ i, i < n → prv n P + 4 + n ≠ prv i P + 4 + i := fun i hi q => by
      have := (h.inj (h.prv_slot e (i := n) (by omega)) (h.prv_slot e (i := i) (by omega)) q).2
      omega
    have hnx : ∀ i, i < n → x.a + 4 + n ≠ prv i P + 4 + i := fun i hi q => by
      have := (h.inj (.inr ⟨x, hxn, by omega, rfl⟩) (h.prv_slot e (i := i) (by omega)) q).2
      omega
    have hat : G (delN P n nd) (prv n P + 4 + n) = (x.a : Int) := by
      rw [ih.keep _ hne, h.links P (x :: R) e n (by omega), nxt, if_pos (by omega)]
    have hto : G (delN P n nd) (x.a + 4 + n) = ((nxt n R : Nat) : Int) := by
      have := h.links (P ++ [x]) R (by rw [e]; simp) n (by omega)
      rw [prv_hit n P [] x (by simp) (by omega)] at this
      rw [ih.keep _ hnx, this]
    have hval : delN P (n + 1) nd = (delN P n nd).set (prv n P + 4 + n) ((nxt n R : Nat) : Int) := by
      simp only [delN, delStep]
      rw [hat, Int.toNat_natCast, hto]
    refine ⟨by rw [hval, List.length_set]; exact hl, fun i hi => ?_, fun k hk => ?_⟩
    · rw [hval]
      by_cases q : i = n
      · subst q
        exact G_set_same (by omega) _
      · rw [G_set_ne (hne i (by omega))]
        exact ih.hit i (by omega)
    · rw [hval, G_set_ne (Ne.symm (hk n (by omega)))]
      exact ih.keep k fun i hi => hk i (by omega)

theorem Skip.sides {nd kv : List Int} {mh : Nat} {ns P R : List Node} (h : Skip nd kv mh ns) (e : ns = P ++ R) {i j : Nat} (hR : ∃ y ∈ R, i < y.h) : prv i R ≠ prv j P ∧ ∀ C D, R = C ++ D → (∃ y ∈ C, i < y.h) → prv i C ≠ prv j P := by
  have key : ∀ C D, R = C ++ D → (∃ y ∈ C, i < y.h) → prv i C ≠ prv j P := by
    intro C D hC hy q
    rcases split_last i C with u | ⟨A, y, B, u, u1, u2⟩
    · obtain ⟨y, hy, y1⟩ := hy
      have := u y hy
      omega
    · rw [u, prv_hit i A B y u1 u2] at q
      have hyR : y ∈ R := by rw [hC, u]; simp
      have hya := (h.ok y ((mem_split e).2 y hyR)).a
      rcases prv_is j P with w0 | ⟨x, hx, x1, x2⟩
      · omega
      · rw [x2] at q
        have hap := h.apart
        rw [e] at hap
        rcases (List.pairwise_append.1 hap).2.2 x hx y hyR with v | v <;> omega
  exact ⟨key R [] (by simp) hR, key⟩

theorem links_del {nd kv : List Int} {mh : Nat} {ns P R : List Node} {x : Node} (h : Skip nd kv mh ns) (e : ns = P ++ x :: R) {nd1 : List Int} (ht : DelTold nd nd1 P R x.h) : Links nd1 (P ++ R) := by
  have hxn : x ∈ ns := by rw [e]; simp
  have hx12 : x.h ≤ 12 := Nat.le_trans (h.ok x hxn).hm h.m12
  intro P' R' e' i hi
  have far : ∀ j, j < x.h → i = j → prv i P + 4 + i = prv j P + 4 + j := fun j _ q => by rw [q]
  -- the place is P's own
  have own : ∀ T, nxt i R = nxt i T → prv i P' = prv i P → G nd1 (prv i P' + 4 + i) = ((nxt i T : Nat) : Int) := by
    intro T hT hp
    rw [hp]
    by_cases q : i < x.h
    · rw [ht.hit i q, hT]
    · rw [ht.keep _ (fun j hj q2 => by
        have := (h.inj (h.prv_slot e hi) (h.prv_slot e (i := j) (by omega)) q2).2
        omega), h.links P (x :: R) e i hi, nxt, if_neg q, hT]
  rcases List.append_eq_append_iff.1 e' with ⟨C, hC1, hC2⟩ | ⟨C, hC1, hC2⟩
  · by_cases q : ∃ y ∈ C, i < y.h
    · have e2 : ns = (P ++ x :: C) ++ R' := by rw [e, hC2]; simp
      have q1 : prv i P' = prv i (P ++ x :: C) := by
        rw [hC1, prv_of i P C q, show P ++ x :: C = (P ++ [x]) ++ C from by simp, prv_of i (P ++ [x]) C q]
      rw [q1, ht.keep _ ?_, h.links (P ++ x :: C) R' e2 i hi]
      intro j hj q2
      obtain ⟨q4, rfl⟩ := h.inj (h.prv_slot e2 hi) (h.prv_slot e (i := j) (by omega)) q2
      have e3 : ns = (P ++ [x]) ++ R := by rw [e]; simp
      rw [show P ++ x :: C = (P ++ [x]) ++ C from by simp, prv_of i (P ++ [x]) C q] at q4
      obtain ⟨y, hy, hy2⟩ := q
      have e4 : ns = P ++ (x :: R) := e
      have := (h.sides e4 (i := i) (j := i) ⟨x, by simp, hj⟩).2 (x :: C) R' (by rw [hC2]; rfl) ⟨x, by simp, hj⟩
      rw [show x :: C = [x] ++ C from rfl, prv_of i [x] C ⟨y, hy, hy2⟩] at this
      exact this q4
    · have hlow : ∀ y ∈ C, y.h ≤ i := fun y hy => Nat.not_lt.1 fun q2 => q ⟨y, hy, q2⟩
      exact own R' (by rw [hC2, nxt_app i C R' hlow]) (by rw [hC1, prv_low i P C hlow])
  · by_cases q : ∃ y ∈ C, i < y.h
    · have e2 : ns = P' ++ (C ++ x :: R) := by rw [e, hC1]; simp
      rw [ht.keep _ ?_, h.links P' (C ++ x :: R) e2 i hi, hC2, nxt_of i C _ q, nxt_of i C _ q]
      intro j hj q2
      obtain ⟨q4, rfl⟩ := h.inj (h.prv_slot e2 hi) (h.prv_slot e (i := j) (by omega)) q2
      rw [hC1, prv_of i P' C q] at q4
      obtain ⟨y, hy, hy2⟩ := q
      exact (h.sides e2 (i := i) (j := i) ⟨y, List.mem_append_left _ hy, hy2⟩).2 C (x :: R) rfl ⟨y, hy, hy2⟩ q4.symm
    · have hlow : ∀ y ∈ C, y.h ≤ i := fun y hy => Nat.not_lt.1 fun q2 => q ⟨y, hy, q2⟩
      exact own R' (by rw [hC2, nxt_app i C R hlow]) (by rw [hC1, prv_low i P' C hlow])

theorem skip_del {nd kv : List Int} {mh : Nat} {ns P R : List Node} {x : Node} (h : Skip nd kv mh ns) (e : ns = P ++ x :: R) : Skip (delN P x.h nd) kv mh (P ++ R) := by
  have hxn : x ∈ ns := by rw [e]; simp
  have hx12 : x.h ≤ 12 := Nat.le_trans (h.ok x hxn).hm h.m12
  have ht := del_told h e x.h (Nat.le_refl _)
  have hsub : ∀ y ∈ P ++ R, y ∈ ns := fun y hy => by
    rw [e]
    rcases List.mem_append.1 hy with q | q
    · exact List.mem_append_left _ q
    · exact List.mem_append_right _ (List.mem_cons_of_mem _ q)
  refine ⟨links_del h e ht, fun y hy => ?_, ?_, h.m1, h.m12, by rw [ht.len]; exact h.len, ?_⟩
  · exact (h.ok y (hsub y hy)).keep (fun t ht4 => ht.keep _ fun i hi => Ne.symm (h.cell_ne (hsub y hy) (h.prv_slot e (i := i) (by omega)) ht4)) (Nat.le_of_eq ht.len.symm) (Nat.le_refl _) [] (by simp)
  · have hap := h.apart
    rw [e] at hap
    obtain ⟨p1, p2, p3⟩ := List.pairwise_append.1 hap
    exact List.pairwise_append.2 ⟨p1, (List.pairwise_cons.1 p2).2, fun u hu v hv => p3 u hu v (List.mem_cons_of_mem _ hv)⟩
  · rw [ht.keep 0 (fun i hi => by omega)]
    exact h.zero

theorem nxt_val (i : Nat) (A B : List Node) (x : Node) (v : List Int) : nxt i (A ++ { x with val := v } :: B) = nxt i (A ++ x :: B) := by
  induction A with
  | nil => rfl
  | cons y A ih => simp only [List.cons_append, nxt, ih]

theorem prv_val (i : Nat) (A B : List Node) (x : Node) (v : List Int) : prv i (A ++ { x with val := v } :: B) = prv i (A ++ x :: B) := by
  have := nxt_val i B.reverse A.reverse x v
  simpa [prv] using this

theorem links_val {nd nd1 : List Int} {P R : List Node} {x : Node} {v : List Int} (h : Links nd (P ++ x :: R)) (hk : ∀ A B, P ++ x :: R = A ++ B → ∀ i, i < 12 → G nd1 (prv i A + 4 + i) = G nd (prv i A + 4 + i)) : Links nd1 (P ++ { x with val := v } :: R) := by
  intro P' R' e' i hi
  rcases List.append_eq_append_iff.1 e' with ⟨C, hC1, hC2⟩ | ⟨C, hC1, hC2⟩
  · cases C with
    | nil =>
      simp only [List.append_nil] at hC1
      simp only [List.nil_append] at hC2
      subst hC1 hC2
      rw [hk P' (x :: R) rfl i hi, h P' (x :: R) rfl i hi]
      exact congrArg _ (nxt_val i [] R x v).symm
    | cons c C =>
      simp only [List.cons_append, List.cons.injEq] at hC2
      obtain ⟨rfl, hC2⟩ := hC2
      subst hC1
      have e2 : P ++ x :: R = (P ++ x :: C) ++ R' := by rw [hC2]; simp
      rw [prv_val, hk _ R' e2 i hi, h _ R' e2 i hi]
  · subst hC2
    have e2 : P ++ x :: R = P' ++ (C ++ x :: R) := by rw [hC1]; simp
    rw [hk P' _ e2 i hi, h P' _ e2 i hi]
    exact congrArg _ (nxt_val i C R x v).symm

theorem skip_val {nd kv : List Int} {mh : Nat} {ns P R : List Node} {x : Node} (h : Skip nd kv mh ns) (e : ns = P ++ x :: R) (val : List Int) : Skip ((nd.set x.a (kv.length : Int)).set (x.a + 2) (val.length : Int)) (kv ++ (x.key ++ val)) mh (P ++ { x with val := val } :: R) := by
  have hxn : x ∈ ns := by rw [e]; simp
  have hxo := h.ok x hxn
  have hxe := hxo.end_
  have hx1 := hxo.h1
  have hxa := hxo.a
  have hkeep : ∀ k, k ≠ x.a → k ≠ x.a + 2 → G ((nd.set x.a (kv.length : Int)).set (x.a + 2) (val.length : Int)) k = G nd k := fun k h1 h2 => by
    rw [G_set_ne (Ne.symm h2), G_set_ne (Ne.symm h1)]
  have hoth : ∀ y ∈ ns, y ≠ x → NodeOk ((nd.set x.a (kv.length : Int)).set (x.a + 2) (val.length : Int)) (kv ++ (x.key ++ val)) mh y := fun y hy hyx =>
    (h.ok y hy).keep (fun t ht => hkeep _ (fun q => h.two_ne hy hxn ht (t := 0) (by omega) (.inr hyx) (by omega)) (fun q => h.two_ne hy hxn ht (t := 2) (by omega) (.inr hyx) q)) (by simp) (Nat.le_refl _) _ rfl
  have hap := h.apart
  rw [e] at hap
  obtain ⟨p1, p2, p3⟩ := List.pairwise_append.1 hap
  obtain ⟨p4, p5⟩ := List.pairwise_cons.1 p2
  have hself : ∀ y : Node, Apart y x → 1 ≤ y.h → y ≠ x := fun y q hy1 q2 => by
    subst q2
    rcases q with q | q <;> omega
  have hself2 : ∀ y : Node, Apart x y → y ≠ x := fun y q q2 => by
    subst q2
    rcases q with q | q <;> omega
  have hlk := h.links
  rw [e] at hlk
  refine ⟨links_val hlk fun A B hAB i hi => ?_, fun y hy => ?_, ?_, h.m1, h.m12, by simpa using h.len, ?_⟩
  · have hs := h.prv_slot (e.trans hAB) hi
    refine hkeep _ (fun q => h.cell_ne hxn hs (t := 0) (by omega) (by omega)) (fun q => h.cell_ne hxn hs (t := 2) (by omega) (by omega))
  · rcases List.mem_append.1 hy with q | q
    · exact hoth y ((mem_split e).1 y q) (hself y (p3 y q x List.mem_cons_self) (by have := (h.ok y ((mem_split e).1 y q)).h1; omega))
    · rcases List.mem_cons.1 q with rfl | q
      · refine ⟨hxo.a, hxo.h1, hxo.hm, by simpa using hxe, ⟨kv.length, ?_, ?_, ?_, ?_⟩, ?_, ?_, ?_⟩
        · show G _ x.a = _
          rw [G_set_ne (by omega), G_set_same (by omega)]
        · simp; omega
        · simp
        · simp
        · show G _ (x.a + 1) = _
          rw [hkeep _ (by omega) (by omega)]; exact hxo.kl
        · show G _ (x.a + 2) = _
          rw [G_set_same (by simp; omega)]
        · show G _ (x.a + 3) = _
          rw [hkeep _ (by omega) (by omega)]; exact hxo.ht
      · exact hoth y ((mem_split e).2 y (List.mem_cons_of_mem _ q)) (hself2 y (p4 y q))
  · refine List.pairwise_append.2 ⟨p1, List.pairwise_cons.2 ⟨fun y hy => p4 y hy, p5⟩, fun u hu v hv => ?_⟩
    rcases List.mem_cons.1 hv with rfl | hv
    · exact p3 u hu x List.mem_cons_self
    · exact p3 u hu v (List.mem_cons_of_mem _ hv)
  · rw [hkeep 0 (by omega) (by omega)]
    exact h.zero

theorem skip_new (nd : List Int) (hl : nd.length = 16) (hz : ∀ i, i ≠ 3 → G nd i = 0) : Skip nd [] 1 [] := by
  refine ⟨fun P R e i hi => ?_, by simp, .nil, by omega, by omega, by omega, hz 0 (by omega)⟩
  obtain ⟨rfl, rfl⟩ := List.append_eq_nil_iff.1 e.symm
  exact hz _ (by show 0 + 4 + i ≠ 3; omega)

end Go.Proofs.YtdkkkikcigjlhaaGreatDoor.Md

namespace Go.Proofs.YtdkkkikcigjlhaaGreatDoor.Cmp

def Byt (l : List Int) : Prop := ∀ x ∈ l, 0 ≤ x ∧ x ≤ 255

def cmpI : List Int → List Int → Int
  | [], [] => 0
  | [], _ :: _ => -1
  | _ :: _, [] => 1
  | a :: l, b :: m => if a < b then -1 else if b < a then 1 else cmpI l m

theorem cmpI_three : ∀ l m, cmpI l m = -1 ∨ cmpI l m = 0 ∨ cmpI l m = 1
  | [], [] => by simp [cmpI]
  | [], _ :: _ => by simp [cmpI]
  | _ :: _, [] => by simp [cmpI]
  | a :: l, b :: m => by
    unfold cmpI
    by_cases h : a < b
    · simp [h]
    · by_cases h2 : b < a
      · simp [h, h2]
      · rw [if_neg h, if_neg h2]; exact cmpI_three l m

theorem cmpI_swap : ∀ l m, cmpI m l = - cmpI l m
  | [], [] => by simp [cmpI]
  | [], _ :: _ => by simp [cmpI]
  | _ :: _, [] => by simp [cmpI]
  | a :: l, b :: m => by
    unfold cmpI
    by_cases h : a < b
    · have h2 : ¬ b < a := by omega
      simp [h, h2]
    · by_cases h2 : b < a
      · simp [h, h2]
      · rw [if_neg h, if_neg h2, if_neg h2, if_neg h]; exact cmpI_swap l m

theorem cmpI_refl : ∀ l, cmpI l l = 0
  | [] => rfl
  | a :: l => by
    unfold cmpI
    rw [if_neg (by omega), if_neg (by omega)]; exact cmpI_refl l

theorem cmpI_eq : ∀ l m, cmpI l m = 0 → l = m
  | [], [], _ => rfl
  | [], _ :: _, h => by simp [cmpI] at h
  | _ :: _, [], h => by simp [cmpI] at h
  | a :: l, b :: m, h => by
    unfold cmpI at h
    by_cases h1 : a < b
    · simp [h1] at h
    · by_cases h2 : b < a
      · simp [h1, h2] at h
      · rw [if_neg h1, if_neg h2] at h
        have e : a = b := by omega
        rw [e, cmpI_eq l m h]

theorem cmpI_zero {l m : List Int} : cmpI l m = 0 ↔ l = m := ⟨cmpI_eq l m, fun h => h ▸ cmpI_refl l⟩

theorem cmpI_trans : ∀ l m k, cmpI l m < 0 → cmpI m k < 0 → cmpI l k < 0
  | [], [], _, h, _ => by simp [cmpI] at h
  | _ :: _, [], _, h, _ => by simp [cmpI] at h
  | _, _ :: _, [], _, h => by simp [cmpI] at h
  | [], _ :: _, _ :: _, _, _ => by simp [cmpI]
  | a :: l, b :: m, c :: k, h, g => by
    unfold cmpI at h g ⊢
    by_cases h1 : a < b
    · by_cases g1 : b < c
      · rw [if_pos (by omega)]; omega
      · by_cases g2 : c < b
        · rw [if_neg g1, if_pos g2] at g; omega
        · rw [if_pos (by omega)]; omega
    · by_cases h2 : b < a
      · rw [if_neg h1, if_pos h2] at h; omega
      · rw [if_neg h1, if_neg h2] at h
        by_cases g1 : b < c
        · rw [if_pos (by omega)]; omega
        · by_cases g2 : c < b
          · rw [if_neg g1, if_pos g2] at g; omega
          · rw [if_neg g1, if_neg g2] at g
            rw [if_neg (by omega), if_neg (by omega)]
            exact cmpI_trans l m k h g

theorem cmpI_nil (l : List Int) : ¬ cmpI l [] < 0 := by
  cases l <;> simp [cmpI]
theorem cmpI_nil_left (l : List Int) : cmpI [] l < 0 ↔ l ≠ [] := by
  cases l <;> simp [cmpI]

def cmpO (o : Int) (l m : List Int) : Int :=
  if o = 1 then (if l.length = 0 ∨ m.length = 0 then cmpI l m else cmpI m l)
  else if o = 2 then (if l.length = m.length then cmpI l m else if l.length < m.length then -1 else 1)
  else cmpI l m

theorem cmpO_three (o : Int) (l m : List Int) : cmpO o l m = -1 ∨ cmpO o l m = 0 ∨ cmpO o l m = 1 := by
  unfold cmpO
  have h1 := cmpI_three l m
  have h2 := cmpI_three m l
  by_cases a : o = 1
  · rw [if_pos a]; split <;> assumption
  · rw [if_neg a]
    by_cases b : o = 2
    · rw [if_pos b]; split
      · exact h1
      · split <;> omega
    · rw [if_neg b]; exact h1

theorem cmpO_swap (o : Int) (l m : List Int) : cmpO o m l = - cmpO o l m := by
  unfold cmpO
  have h1 := cmpI_swap l m
  by_cases a : o = 1
  · rw [if_pos a, if_pos a]
    by_cases z : l.length = 0 ∨ m.length = 0
    · rw [if_pos z, if_pos (by omega)]; exact h1
    · rw [if_neg z, if_neg (by omega)]; omega
  · rw [if_neg a, if_neg a]
    by_cases b : o = 2
    · rw [if_pos b, if_pos b]
      by_cases e : l.length = m.length
      · rw [if_pos e, if_pos e.symm]; exact h1
      · rw [if_neg e, if_neg (Ne.symm e)]
        by_cases c : l.length < m.length
        · rw [if_pos c, if_neg (by omega)]; omega
        · rw [if_neg c, if_pos (by omega)]
    · rw [if_neg b, if_neg b]; exact h1

theorem cmpO_zero {o : Int} {l m : List Int} : cmpO o l m = 0 ↔ l = m := by
  unfold cmpO
  by_cases a : o = 1
  · rw [if_pos a]
    split
    · exact cmpI_zero
    · rw [cmpI_zero]; exact eq_comm
  · rw [if_neg a]
    by_cases b : o = 2
    · rw [if_pos b]
      by_cases e : l.length = m.length
      · rw [if_pos e]; exact cmpI_zero
      · rw [if_neg e]
        constructor
        · split <;> omega
        · intro h; exact absurd (h ▸ rfl) e
    · rw [if_neg b]; exact cmpI_zero

theorem len_zero {l : List Int} (h : l.length = 0) : l = [] := List.eq_nil_of_length_eq_zero h

theorem cmpO_trans (o : Int) (l m k : List Int) (h : cmpO o l m < 0) (g : cmpO o m k < 0) : cmpO o l k < 0 := by
  unfold cmpO at h g ⊢
  by_cases a : o = 1
  · rw [if_pos a] at h g ⊢
    by_cases zm : m.length = 0
    · rw [if_pos (Or.inr zm), len_zero zm] at h
      exact absurd h (cmpI_nil l)
    · by_cases zk : k.length = 0
      · rw [if_pos (Or.inr zk), len_zero zk] at g
        exact absurd g (cmpI_nil m)
      · rw [if_neg (by omega)] at g
        by_cases zl : l.length = 0
        · rw [if_pos (Or.inl zl), len_zero zl, cmpI_nil_left]
          intro e; rw [e] at zk; exact zk rfl
        · rw [if_neg (by omega)] at h
          rw [if_neg (by omega)]
          exact cmpI_trans k m l g h
  · rw [if_neg a] at h g ⊢
    by_cases b : o = 2
    · rw [if_pos b] at h g ⊢
      by_cases e : l.length = m.length
      · rw [if_pos e] at h
        by_cases f : m.length = k.length
        · rw [if_pos f] at g
          rw [if_pos (by omega)]; exact cmpI_trans l m k h g
        · rw [if_neg f] at g
          by_cases f2 : m.length < k.length
          · rw [if_neg (by omega), if_pos (by omega)]; omega
          · rw [if_neg f2] at g; omega
      · rw [if_neg e] at h
        by_cases e2 : l.length < m.length
        · by_cases f : m.length = k.length
          · rw [if_neg (by omega), if_pos (by omega)]; omega
          · rw [if_neg f] at g
            by_cases f2 : m.length < k.length
            · rw [if_neg (by omega), if_pos (by omega)]; omega
            · rw [if_neg f2] at g; omega
        · rw [if_neg e2] at h; omega
    · rw [if_neg b] at h g ⊢; exact cmpI_trans l m k h g

end Go.Proofs.YtdkkkikcigjlhaaGreatDoor.Cmp

namespace Go.Proofs.YtdkkkikcigjlhaaGreatDoor.Md

structure Ord (f : List Int → List Int → Int) : Prop where
  three : ∀ l m, f l m = -1 ∨ f l m = 0 ∨ f l m = 1
  swap : ∀ l m, f m l = - f l m
  zero : ∀ l m, f l m = 0 ↔ l = m
  trans : ∀ l m k, f l m < 0 → f m k < 0 → f l k < 0

def Sorted (f : List Int → List Int → Int) (l : List Node) : Prop := l.Pairwise fun x y => f x.key y.key < 0

theorem Ord.refl {f : List Int → List Int → Int} (h : Ord f) (l : List Int) : f l l = 0 := (h.zero l l).2 rfl

theorem sorted_split {f : List Int → List Int → Int} (h : Ord f) (key : List Int) : ∀ l, Sorted f l → ∃ P R, l = P ++ R ∧ (∀ x ∈ P, f x.key key < 0) ∧ (∀ x ∈ R, 0 ≤ f x.key key) := by
  intro l
  induction l with
  | nil => intro _; exact ⟨[], [], rfl, by simp, by simp⟩
  | cons x l ih =>
    intro hs
    obtain ⟨h1, h2⟩ := List.pairwise_cons.1 hs
    by_cases q : f x.key key < 0
    · obtain ⟨P, R, rfl, h3, h4⟩ := ih h2
      refine ⟨x :: P, R, rfl, fun y hy => ?_, h4⟩
      rcases List.mem_cons.1 hy with e | hy
      · rw [e]; exact q
      · exact h3 y hy
    · refine ⟨[], x :: l, rfl, by simp, fun y hy => ?_⟩
      rcases List.mem_cons.1 hy with e | hy
      · rw [e]; omega
      · rcases Int.lt_or_le (f y.key key) 0 with q2 | q2
        · exact absurd (h.trans _ _ _ (h1 y hy) q2) q
        · exact q2

theorem hit_first {f : List Int → List Int → Int} (h : Ord f) {key : List Int} {R : List Node} (hs : Sorted f R) (hR : ∀ x ∈ R, 0 ≤ f x.key key) {y : Node} (hy : y ∈ R) (h0 : f y.key key = 0) : ∃ R', R = y :: R' := by
  cases R with
  | nil => cases hy
  | cons x R =>
    rcases List.mem_cons.1 hy with rfl | hy
    · exact ⟨R, rfl⟩
    · have h1 := (List.pairwise_cons.1 hs).1 y hy
      have e : y.key = key := (h.zero _ _).1 h0
      rw [e] at h1
      have := hR x List.mem_cons_self
      omega

theorem look (i : Nat) (A B R : List Node) : ((∀ y ∈ B, y.h ≤ i) ∧ nxt i (B ++ R) = nxt i R ∧ prv i (A ++ B) = prv i A) ∨ ∃ B1 y B2, B = B1 ++ y :: B2 ∧ i < y.h ∧ nxt i (B ++ R) = y.a ∧ prv i (A ++ (B1 ++ [y])) = y.a := by
  rcases split_first i B with h | ⟨B1, y, B2, rfl, h1, h2⟩
  · exact .inl ⟨h, nxt_app i B R h, prv_low i A B h⟩
  · refine .inr ⟨B1, y, B2, rfl, h2, ?_, ?_⟩
    · rw [List.append_assoc]; exact nxt_hit i B1 _ y h1 h2
    · have := prv_hit i (A ++ B1) [] y (by simp) h2
      simpa using this

theorem step_on {i : Nat} {A B R : List Node} (h : ∃ y ∈ B, i < y.h) : ∃ A' B', A ++ B = A' ++ B' ∧ prv i A' = nxt i (B ++ R) ∧ B'.length + 1 ≤ B.length ∧ ∃ y ∈ B, nxt i (B ++ R) = y.a := by
  rcases look i A B R with ⟨g, _⟩ | ⟨B1, y, B2, rfl, g1, g2, g3⟩
  · obtain ⟨y, hy, q⟩ := h
    have := g y hy
    omega
  · exact ⟨A ++ (B1 ++ [y]), B2, by simp, g3.trans g2.symm, by rw [List.length_append, List.length_cons]; omega, y, by simp, g2⟩

theorem step_down {i : Nat} {A B : List Node} (h : ∀ y ∈ B, y.h ≤ i) : ∃ A' B', A ++ B = A' ++ B' ∧ prv (i - 1) A' = prv i A ∧ prv i (A ++ B) = prv i A ∧ B'.length ≤ (A ++ B).length := by
  obtain ⟨A', B', h1, h2, h3⟩ := prv_down i (A ++ B)
  have h4 := prv_low i A B h
  exact ⟨A', B', h1, (h3 (i - 1) (by omega)).trans h4, h4, by rw [h1, List.length_append]; omega⟩

theorem low_or_high (i : Nat) (B : List Node) : (∀ y ∈ B, y.h ≤ i) ∨ ∃ y ∈ B, i < y.h := by
  rcases split_first i B with h | ⟨B1, y, B2, rfl, _, h⟩
  · exact .inl h
  · exact .inr ⟨y, by simp, h⟩

theorem down_less {i n m k : Nat} (h0 : ¬ i = 0) (h : i * (n + 1) + m ≤ k) : (i - 1) * (n + 1) + n < k := by
  obtain ⟨j, rfl⟩ : ∃ j, i = j + 1 := ⟨i - 1, by omega⟩
  rw [Nat.add_mul] at h
  simp only [Nat.add_sub_cancel]
  omega

abbrev KV := List Int × List Int

def onL (L : List KV) (i : Int) : Bool := decide (0 ≤ i) && decide (i < (L.length : Int))
def keyL (L : List KV) (i : Int) : List Int := if onL L i then (L.getD i.toNat ([], [])).1 else []
def valL (L : List KV) (i : Int) : List Int := if onL L i then (L.getD i.toNat ([], [])).2 else []
def findL (f : List Int → List Int → Int) (key : List Int) : List KV → Nat
  | [] => 0
  | x :: r => if f x.1 key < 0 then findL f key r + 1 else 0
def mvL (f : List Int → List Int → Int) (L : List KV) (i d : Int) (key : List Int) : Int :=
  if d = 0 then 0 else if d = 1 then (L.length : Int) - 1 else if d = 2 then (if i + 1 ≤ (L.length : Int) then i + 1 else (L.length : Int)) else if d = 3 then (if -1 ≤ i - 1 then i - 1 else -1) else (findL f key L : Int)

theorem findL_le (f : List Int → List Int → Int) (key : List Int) : ∀ L : List KV, findL f key L ≤ L.length := by
  intro L
  induction L with
  | nil => exact Nat.le_refl _
  | cons x r ih =>
    unfold findL
    split
    · rw [List.length_cons]; omega
    · omega

def risesL (f : List Int → List Int → Int) : List KV → Bool
  | [] => true
  | [_] => true
  | x :: y :: r => decide (f x.1 y.1 < 0) && risesL f (y :: r)

theorem rises_step (f : List Int → List Int → Int) (L : List KV) (m : Nat) (h : m + 1 < L.length) : risesL f (L.drop m) = (decide (f (L.getD m ([], [])).1 (L.getD (m + 1) ([], [])).1 < 0) && risesL f (L.drop (m + 1))) := by
  have h0 : m < L.length := by omega
  rw [List.drop_eq_getElem_cons h0, List.drop_eq_getElem_cons h]
  simp only [risesL, List.getD_eq_getElem?_getD, List.getElem?_eq_getElem h, List.getElem?_eq_getElem h0, Option.getD_some]
theorem rises_end (f : List Int → List Int → Int) (L : List KV) (m : Nat) (h : L.length ≤ m + 1) : risesL f (L.drop m) = true := by
  have hl : (L.drop m).length ≤ 1 := by rw [List.length_drop]; omega
  rcases hd : L.drop m with _ | ⟨x, _ | ⟨y, r⟩⟩
  · rfl
  · rfl
  · rw [hd] at hl
    simp at hl

end Go.Proofs.YtdkkkikcigjlhaaGreatDoor.Md

namespace Go.Proofs.YtdkkkikcigjlhaaGreatDoor.Run
open Go.RowKit Go.Proofs.YtdkkkikcigjlhaaGreatDoorW.PrintWords Go.Proofs.YtdkkkikcigjlhaaGreatDoor.Cmp

def u8s (l : List Int) : List UInt8 := l.map fun x => x.toNat.toUInt8

theorem add_zero (a : Addr) : a.add 0 = a := by simp [Addr.add]

theorem run_loadBytes {P : Program} (w : World) : ∀ (n : Nat) (a : Addr) (l : List Int) (acc : ByteArray), l.length = n → (∀ j, j < n → w.cell? (a.add j) = some (.int .u8 (l.getD j 0))) →
    (Extern.Bytes.loadBytes a n acc).run P w = .ok ⟨acc.data ++ (u8s l).toArray⟩ w
  | 0, a, l, acc, hl, _ => by
    obtain rfl := List.eq_nil_of_length_eq_zero hl
    simp [Extern.Bytes.loadBytes, u8s]
  | n + 1, a, l, acc, hl, h => by
    cases l with
    | nil => simp at hl
    | cons x t =>
      have h0 := h 0 (by omega)
      rw [add_zero] at h0
      have ih := run_loadBytes (P := P) w n (a.add 1) t (acc.push x.toNat.toUInt8) (by simpa using hl) (fun j hj => by
        rw [add_add, Nat.add_comm]
        have := h (j + 1) (by omega)
        simpa using this)
      simp only [List.getD_cons_zero] at h0
      have step : (Extern.Bytes.loadBytes a (n + 1) acc).run P w = (Extern.Bytes.loadBytes (a.add 1) n (acc.push x.toNat.toUInt8)).run P w := by
        simp [Extern.Bytes.loadBytes, h0]
      rw [step, ih]
      simp [u8s, ByteArray.push]

theorem run_bytesOf {P : Program} {w : World} {A : Option Addr} {n c : Nat} {l : List Int} (h : Kd.C (Kd.int .u8) w A n l) :
    (Extern.Bytes.bytesOf (.slice A n c)).run P w = .ok ⟨(u8s l).toArray⟩ w := by
  have hr := Kd.reads_of_C (d := (0 : Int)) h
  obtain ⟨h1, h2, h3⟩ := hr
  cases A with
  | none =>
    have : n = 0 := by
      rcases Nat.eq_zero_or_pos n with e | e
      · exact e
      · obtain ⟨ad, hd, _⟩ := h3 e
        cases hd
    subst this
    obtain rfl := List.eq_nil_of_length_eq_zero h1
    simp [Extern.Bytes.bytesOf, u8s, ByteArray.empty, ByteArray.emptyWithCapacity]
    rfl
  | some a =>
    simp only [Extern.Bytes.bytesOf]
    rw [run_loadBytes w n a l .empty h1 (fun j hj => by
      obtain ⟨ad, hd, hc⟩ := h3 (by omega)
      cases hd
      exact hc j hj)]
    simp

theorem compare_u8s : ∀ (l m : List Int), Byt l → Byt m → Lib.compareBytes (u8s l) (u8s m) = cmpI l m
  | [], [], _, _ => rfl
  | [], _ :: _, _, _ => rfl
  | _ :: _, [], _, _ => rfl
  | a :: l, b :: m, hl, hm => by
    have ha := hl a (by simp)
    have hb := hm b (by simp)
    have ih := compare_u8s l m (fun x hx => hl x (by simp [hx])) (fun x hx => hm x (by simp [hx]))
    show (if a.toNat.toUInt8 < b.toNat.toUInt8 then (-1 : Int) else if b.toNat.toUInt8 < a.toNat.toUInt8 then 1 else Lib.compareBytes (u8s l) (u8s m)) = (if a < b then -1 else if b < a then 1 else cmpI l m)
    have e1 : (a.toNat.toUInt8 < b.toNat.toUInt8) ↔ a < b := by
      rw [UInt8.lt_iff_toNat_lt]; simp; omega
    have e2 : (b.toNat.toUInt8 < a.toNat.toUInt8) ↔ b < a := by
      rw [UInt8.lt_iff_toNat_lt]; simp; omega
    simp only [e1, e2, ih]

theorem run_compare {P : Program} {w : World} {A B : Option Addr} {n c m d : Nat} {l k : List Int} (h : Kd.C (Kd.int .u8) w A n l) (g : Kd.C (Kd.int .u8) w B m k) (hl : Byt l) (hk : Byt k) :
    (Extern.BytealgCompare.compare #[.slice A n c, .slice B m d]).run P w = .ok (.int .i64 (cmpI l k)) w := by
  have e : Extern.BytealgCompare.compare #[.slice A n c, .slice B m d] = (do pure (goInt (Extern.BytealgCompare.cmp (← Extern.Bytes.bytesOf (.slice A n c)) (← Extern.Bytes.bytesOf (.slice B m d))))) := rfl
  rw [e]
  simp only [Sem.run_bind, run_bytesOf h, run_bytesOf g, Result.andThen_ok, Sem.run_pure, goInt, Lib.cmp_eq]
  rw [compare_u8s l k hl hk]

end Go.Proofs.YtdkkkikcigjlhaaGreatDoor.Run

namespace Go.Proofs.YtdkkkikcigjlhaaGreatDoor.Con
open Go.RowKit Go.Proofs.YtdkkkikcigjlhaaGreatDoorW.PrintWords Go.Proofs.YtdkkkikcigjlhaaGreatDoor.Cmp Go.Proofs.YtdkkkikcigjlhaaGreatDoor.Run

theorem call_compare {w : World} {A B : Option Addr} {n c m d : Nat} {l k : List Int} (h : Kd.C (Kd.int .u8) w A n l) (g : Kd.C (Kd.int .u8) w B m k) (hl : Byt l) (hk : Byt k) :
    (callFunc 183 #[.slice A n c, .slice B m d]).run Tryz.prog w = .ok (.value (.int .i64 (cmpI l k))) w := by
  rw [run_callFunc_extern Tryz.func183 (by kernel_rfl) (by kernel_rfl) (by kernel_rfl) (e := Extern.BytealgCompare.compare) (by kernel_rfl), run_compare h g hl hk]
  rfl

set_option maxHeartbeats 400000 in
theorem bytes_Compare {w : World} {A B : Option Addr} {n c m d : Nat} {l k : List Int} (h : Kd.C (Kd.int .u8) w A n l) (g : Kd.C (Kd.int .u8) w B m k) (hl : Byt l) (hk : Byt k) :
    Calls Tryz.prog 182 #[.slice A n c, .slice B m d] w fun e w' => e = .returned (.int .i64 (cmpI l k)) ∧ w = w' := by
  have hc := call_compare (c := c) (d := d) h g hl hk
  clear h g hl hk
  go_enter Tryz.func182, Tryz.ntmps182
  go_wp2
  go_ret
  exact ⟨rfl, rfl⟩

theorem ret_int {k : IntKind} {a b : Int} (h : a = b) : Ending.returned (.int k a) = .returned (.int k b) := by rw [h]
theorem ret_v {a b : Value} (h : a = b) : Ending.returned a = .returned b := by rw [h]

def ordV (o : Int) : Value := if o = 1 then .iface 155 (.agg #[]) else if o = 2 then .iface 156 (.agg #[]) else .iface 157 (.agg #[])

set_option maxHeartbeats 400000 in
theorem bytesComparer_Compare {w : World} {A B : Option Addr} {n c m d : Nat} {l k : List Int} (h : Kd.C (Kd.int .u8) w A n l) (g : Kd.C (Kd.int .u8) w B m k) (hl : Byt l) (hk : Byt k) :
    Calls Tryz.prog 188 #[.agg #[], .slice A n c, .slice B m d] w fun e w' => e = .returned (.int .i64 (cmpI l k)) ∧ Below w.heap.size w w' := by
  have H1 := Lib.hid h
  have H2 := Lib.hid g
  clear h g
  go_enter Tryz.func188, Tryz.ntmps188
  go_wp2_with (go_at_call 182; refine (bytes_Compare (Kd.C_alloc H1.out _) (Kd.C_alloc H2.out _) hl hk).mono ?_; rintro e w' ⟨rfl, rfl⟩)
  go_ret
  exact ⟨rfl, by go_grown⟩

set_option maxHeartbeats 400000 in
theorem falling_Compare {w : World} {A B : Option Addr} {n c m d : Nat} {l k : List Int} (h : Kd.C (Kd.int .u8) w A n l) (g : Kd.C (Kd.int .u8) w B m k) (hl : Byt l) (hk : Byt k) :
    Calls Tryz.prog 178 #[.agg #[], .slice A n c, .slice B m d] w fun e w' => e = .returned (.int .i64 (cmpO 1 l k)) ∧ Below w.heap.size w w' := by
  have H1 := Lib.hid h
  have H2 := Lib.hid g
  have en := Kd.C_len h
  have em := Kd.C_len g
  have hx : Hid (cmpO 1 l k = if l.length = 0 ∨ k.length = 0 then cmpI l k else cmpI k l) := by unfold cmpO; rw [if_pos rfl]; rfl
  clear h g
  rw [en, em] at hx
  clear en em
  by_cases z : n = 0
  · have z1 : ((n : Int) == 0) = true := by rw [beq_iff_eq]; omega
    have hz := Lib.hid z
    clear z
    go_enter Tryz.func178, Tryz.ntmps178
    go_wp2_with (go_at_call 182; refine (bytes_Compare (Kd.C_alloc H1.out _) (Kd.C_alloc H2.out _) hl hk).mono ?_; rintro e w' ⟨rfl, rfl⟩)
    go_ret
    exact ⟨ret_int (by rw [hx.out, if_pos (Or.inl hz.out)]), by go_grown⟩
  · have z1 : ((n : Int) == 0) = false := by rw [beq_eq_false_iff_ne]; omega
    by_cases y : m = 0
    · have y1 : ((m : Int) == 0) = true := by rw [beq_iff_eq]; omega
      have hy := Lib.hid y
      clear y
      go_enter Tryz.func178, Tryz.ntmps178
      go_wp2_with (go_at_call 182; refine (bytes_Compare (Kd.C_alloc H1.out _) (Kd.C_alloc H2.out _) hl hk).mono ?_; rintro e w' ⟨rfl, rfl⟩)
      go_ret
      exact ⟨ret_int (by rw [hx.out, if_pos (Or.inr hy.out)]), by go_grown⟩
    · have y1 : ((m : Int) == 0) = false := by rw [beq_eq_false_iff_ne]; omega
      go_enter Tryz.func178, Tryz.ntmps178
      go_wp2_with (go_at_call 182; refine (bytes_Compare (Kd.C_alloc H2.out _) (Kd.C_alloc H1.out _) hk hl).mono ?_; rintro e w' ⟨rfl, rfl⟩)
      go_ret
      exact ⟨ret_int (by rw [hx.out, if_neg (by omega)]), by go_grown⟩

set_option maxHeartbeats 400000 in
theorem shorter_Compare {w : World} {A B : Option Addr} {n c m d : Nat} {l k : List Int} (h : Kd.C (Kd.int .u8) w A n l) (g : Kd.C (Kd.int .u8) w B m k) (hl : Byt l) (hk : Byt k) :
    Calls Tryz.prog 184 #[.agg #[], .slice A n c, .slice B m d] w fun e w' => e = .returned (.int .i64 (cmpO 2 l k)) ∧ Below w.heap.size w w' := by
  have H1 := Lib.hid h
  have H2 := Lib.hid g
  have en := Kd.C_len h
  have em := Kd.C_len g
  have hx : Hid (cmpO 2 l k = if l.length = k.length then cmpI l k else if l.length < k.length then -1 else 1) := by unfold cmpO; rw [if_neg (by omega), if_pos rfl]; rfl
  clear h g
  rw [en, em] at hx
  clear en em
  by_cases z : n = m
  · have z1 : ((n : Int) != (m : Int)) = false := by rw [bne_eq_false_iff_eq]; omega
    have hz := Lib.hid z
    clear z
    go_enter Tryz.func184, Tryz.ntmps184
    go_wp2_with (go_at_call 182; refine (bytes_Compare (Kd.C_alloc H1.out _) (Kd.C_alloc H2.out _) hl hk).mono ?_; rintro e w' ⟨rfl, rfl⟩)
    go_ret
    exact ⟨ret_int (by rw [hx.out, if_pos hz.out]), by go_grown⟩
  · have z1 : ((n : Int) != (m : Int)) = true := by rw [bne_iff_ne]; omega
    by_cases y : n < m
    · go_enter Tryz.func184, Tryz.ntmps184
      go_wp2
      go_ret
      exact ⟨ret_int (by rw [hx.out, if_neg z, if_pos y]), by go_grown⟩
    · go_enter Tryz.func184, Tryz.ntmps184
      go_wp2
      go_ret
      exact ⟨ret_int (by rw [hx.out, if_neg z, if_neg y]), by go_grown⟩

set_option maxHeartbeats 400000 in
theorem orderOf_calls (o : Int) (w : World) :
    Calls Tryz.prog 58 #[.int .i64 o] w fun e w' => e = .returned (ordV o) ∧ w = w' := by
  by_cases a : o = 1
  · subst a
    go_enter Tryz.func58, Tryz.ntmps58
    go_wp2
    go_ret
    exact ⟨rfl, rfl⟩
  · have a1 : (o == 1) = false := by rw [beq_eq_false_iff_ne]; exact a
    by_cases b : o = 2
    · subst b
      go_enter Tryz.func58, Tryz.ntmps58
      go_wp2
      go_ret
      exact ⟨rfl, rfl⟩
    · have b1 : (o == 2) = false := by rw [beq_eq_false_iff_ne]; exact b
      have hv : Hid (ordV o = .iface 157 (.agg #[])) := by unfold ordV; rw [if_neg a, if_neg b]; rfl
      go_enter Tryz.func58, Tryz.ntmps58
      go_wp2
      go_ret
      exact ⟨ret_v hv.out.symm, rfl⟩

end Go.Proofs.YtdkkkikcigjlhaaGreatDoor.Con

namespace Go.Proofs.YtdkkkikcigjlhaaGreatDoor.Md
open Go.RowKit Go.Proofs.YtdkkkikcigjlhaaGreatDoor.Con Go.Proofs.YtdkkkikcigjlhaaGreatDoor.Run Go.Proofs.YtdkkkikcigjlhaaGreatDoorW.PrintWords Go.Proofs.YtdkkkikcigjlhaaGreatDoorW.PrintMore Go.Proofs.YtdkkkikcigjlhaaGreatDoor.Cmp

theorem info_u8 : (Tryz.prog.info? 5).map (fun i => (i.zero, i.size, i.bytes)) = some (some (.int .u8 0), 1, 1) := by kernel_rfl
theorem C_ints {w : World} {k : IntKind} {A : Option Addr} {n : Nat} {l : List Int} (h : Kd.C (Kd.int k) w A n l) : ReadsInt w k A n l := Kd.reads_of_C (d := (0 : Int)) h
theorem ints_C {w : World} {k : IntKind} {A : Option Addr} {n : Nat} {l : List Int} (h : ReadsInt w k A n l) : Kd.C (Kd.int k) w A n l := Kd.C_of_reads (d := (0 : Int)) (h1 := fun _ => rfl) h
theorem still_tail {P : Program} {id : Nat} {Q : Exit → Act → World → Prop} {a : Act} {w : World} {l : List Oper} (n : Nat) (hm : P.follows .mixedOrders = true) (hB : Region.lexTailB .any l.toArray n = true)
    (h : ∀ W, W = w.drew → wpStill P l.toArray W (fun a' => wpList P l.toArray Q (l.drop n) a' W) (l.take n) a) : (Code.region id l.toArray true).wp P Q a w :=
  wp_region_still_tail n hm hB (h _ rfl)

theorem own_slice {w : World} {base n size : Nat} {e : TypeId} {v : Value} {xs : List Value} (h : w.ownsRow base e size v n xs) : ∃ A c, v = .slice A n c := by
  rcases h.2 with ⟨rfl, h2⟩ | ⟨g, cap, cur, rfl, _⟩
  · have : n = 0 := by first | exact h2.1 | exact h2 | omega
    exact ⟨none, 0, by rw [this]⟩
  · exact ⟨_, _, rfl⟩

theorem below_alloc' {B : Nat} {w W : World} (h : Below B w W) (o : Obj) (hB : B ≤ W.heap.size := by exact Below.size (by assumption)) : Below B w (W.alloc o) := h.alloc hB o

theorem blk_kept {w w' : World} {cs : Array Value} {t : TypeId} (h : Below (w.alloc (.cells cs t)).heap.size (w.alloc (.cells cs t)) w') : w'.heap[w.heap.size]? = some (.cells cs t (0, 0)) := by
  have e := blk_new w (.cells cs t)
  rw [← e]
  exact h.block _ (blk_lt e)

theorem own_cell {w : World} {base n size : Nat} {e : TypeId} {v : Value} {xs : List Value} (h : w.ownsRow base e size v n xs) (hn : 0 < n) : ∃ g c, v = .slice (some ⟨g, 0, none⟩) n c ∧ base ≤ g ∧ ∀ i u, xs[i]? = some u → w.cell? ⟨g, i, none⟩ = some u := by
  rcases h.2 with ⟨rfl, h2⟩ | ⟨g, cap, cur, rfl, hb, hh, _, _, _, h3⟩
  · omega
  · refine ⟨g, cap, rfl, hb, fun i u hi => ?_⟩
    rw [blk_cell hh i]
    rw [← h3] at hi
    rcases Nat.lt_or_ge i (n * size) with q | q
    · rw [List.getElem?_take_of_lt q] at hi
      simpa using hi
    · rw [List.getElem?_eq_none (by simp; omega)] at hi
      cases hi

theorem grown_set (w : World) (dg i : Nat) (v : Value) : w.grownBy (w.setCell ⟨dg, i, none⟩ v) (some dg) :=
  ⟨rfl, rfl, rfl, by simp, fun k _ hk => Below.heap_setCell _ _ _ k (fun e => hk (by rw [e]))⟩

theorem append_row_step {P : Program} {ops : Array Oper} {o : Oper} {a : Act} {Q : Exit → Act → World → Prop} {Kc : Act → World → Prop} {w0 W : World} (base : Nat)
    (hw : Region.wanted o (yielded ops a.tmps) = true) (s x : Operand) (t e : TypeId)
    (ho : o.op = .call { callee := .builtin .append, args := #[s, x], argTypes := #[t, t] })
    (ht : P.underlying t = some (.slice e)) (hinfo : (P.info? e).map (fun i => (i.zero, i.size, i.bytes)) = some (some (.int .u8 0), 1, 1))
    (v : Value) (xs ys : List Int) (A : Option Addr) (m c : Nat) (hs : a.eval s = v) (hx : a.eval x = .slice A m c)
    (HO : W.ownsRow base e 1 v xs.length (nums .u8 xs)) (HR : Kd.C (Kd.int .u8) W A m ys) (HB : Below base w0 W) (hbase : base ≤ W.heap.size) (hl : xs.length + m ≤ 140737488355328)
    (h : ∀ v1 w1, w1.ownsRow base e 1 v1 (xs ++ ys).length (nums .u8 (xs ++ ys)) → Below base w0 w1 → W.grownBy w1 v.ownBlock → (v1.ownBlock = v.ownBlock ∨ ∃ b, v1.ownBlock = some b ∧ W.heap.size ≤ b) → Kc (a.put o.dst v1) w1) :
    if Region.wanted o (yielded ops a.tmps) = true then Oper.wp P o a W Kc Q else Kc (a.put o.dst undef) W :=
  Kd.R_append_rows_step (Kd.int .u8) (Rr := (Kd.int .u8).K W) base hw s x t e (.int .u8 0) 1 ho ht hinfo rfl (by decide) (by decide) v xs ys A m c (fun _ => True) (fun _ => False) hs hx
    (Kd.R_of_own HO (fun _ _ => trivial)) HR (fun _ _ h => h) (fun _ h => h.elim) (fun _ _ => trivial) HB hbase (by omega)
    (fun v1 w1 h1 h2 h3 h4 => h v1 w1 (Kd.own_of_R h1) h2 h3 h4)

end Go.Proofs.YtdkkkikcigjlhaaGreatDoor.Md
