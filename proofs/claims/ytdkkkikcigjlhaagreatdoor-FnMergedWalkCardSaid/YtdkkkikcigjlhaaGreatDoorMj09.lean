/- A skip list as a list of nodes: what its links are, and what becomes of them. No program in sight. Comparing rows of bytes, as plain lists of integers: an order of three values. Written for the seat YtdkkkikcigjlhaaGreatDoor. -/
import Derived.IntWalk
set_option linter.unusedVariables false
set_option linter.unusedSimpArgs false
namespace Go.Proofs.YtdkkkikcigjlhaaGreatDoor.Md

structure Node where
  a : Nat
  h : Nat
  key : List Int
  val : List Int

def nxt (i : Nat) : List Node → Nat
  | [] => 0
  | x :: r => if i < x.h then x.a else nxt i r

def prv (i : Nat) (l : List Node) : Nat := nxt i l.reverse

def G (l : List Int) (i : Nat) : Int := l.getD i 0

theorem nxt_app (i : Nat) (A B : List Node) (hA : ∀ x ∈ A, x.h ≤ i) : nxt i (A ++ B) = nxt i B := by
  induction A with
  | nil => rfl
  | cons x A ih =>
    have h1 : ¬ i < x.h := Nat.not_lt.2 (hA x List.mem_cons_self)
    simp only [List.cons_append, nxt, if_neg h1]
    exact ih fun y hy => hA y (List.mem_cons_of_mem _ hy)

theorem nxt_hit (i : Nat) (A B : List Node) (x : Node) (hA : ∀ y ∈ A, y.h ≤ i) (hx : i < x.h) : nxt i (A ++ x :: B) = x.a := by
  rw [nxt_app i A _ hA]
  simp [nxt, hx]

theorem nxt_of (i : Nat) (A B : List Node) (hA : ∃ y ∈ A, i < y.h) : nxt i (A ++ B) = nxt i A := by
  induction A with
  | nil => obtain ⟨y, hy, _⟩ := hA; cases hy
  | cons x A ih =>
    simp only [List.cons_append, nxt]
    split
    · rfl
    · rename_i hn
      obtain ⟨y, hy, hi⟩ := hA
      rcases List.mem_cons.1 hy with rfl | hy
      · exact absurd hi hn
      · exact ih ⟨y, hy, hi⟩

theorem split_first (i : Nat) (l : List Node) : (∀ x ∈ l, x.h ≤ i) ∨ ∃ A x B, l = A ++ x :: B ∧ (∀ y ∈ A, y.h ≤ i) ∧ i < x.h := by
  induction l with
  | nil => exact .inl (by simp)
  | cons x l ih =>
    by_cases h : i < x.h
    · exact .inr ⟨[], x, l, rfl, by simp, h⟩
    · rcases ih with h1 | ⟨A, y, B, rfl, h1, h2⟩
      · refine .inl fun y hy => ?_
        rcases List.mem_cons.1 hy with rfl | hy
        · omega
        · exact h1 y hy
      · refine .inr ⟨x :: A, y, B, rfl, fun z hz => ?_, h2⟩
        rcases List.mem_cons.1 hz with rfl | hz
        · omega
        · exact h1 z hz

theorem split_last (i : Nat) (l : List Node) : (∀ x ∈ l, x.h ≤ i) ∨ ∃ A x B, l = A ++ x :: B ∧ (∀ y ∈ B, y.h ≤ i) ∧ i < x.h := by
  rcases split_first i l.reverse with h | ⟨A, x, B, h, h1, h2⟩
  · exact .inl fun x hx => h x (List.mem_reverse.2 hx)
  · refine .inr ⟨B.reverse, x, A.reverse, ?_, fun y hy => h1 y (List.mem_reverse.1 hy), h2⟩
    have := congrArg List.reverse h
    simpa using this

theorem prv_none (i : Nat) (l : List Node) (h : ∀ x ∈ l, x.h ≤ i) : prv i l = 0 := by
  have := nxt_app i l.reverse [] (fun x hx => h x (List.mem_reverse.1 hx))
  simpa [prv, nxt] using this

theorem nxt_none (i : Nat) (l : List Node) (h : ∀ x ∈ l, x.h ≤ i) : nxt i l = 0 := by
  have := nxt_app i l [] h
  simpa [nxt] using this

theorem prv_hit (i : Nat) (A B : List Node) (x : Node) (hB : ∀ y ∈ B, y.h ≤ i) (hx : i < x.h) : prv i (A ++ x :: B) = x.a := by
  have := nxt_hit i B.reverse A.reverse x (fun y hy => hB y (List.mem_reverse.1 hy)) hx
  simpa [prv] using this

theorem prv_low (i : Nat) (A B : List Node) (hB : ∀ y ∈ B, y.h ≤ i) : prv i (A ++ B) = prv i A := by
  have := nxt_app i B.reverse A.reverse (fun y hy => hB y (List.mem_reverse.1 hy))
  simpa [prv] using this

theorem prv_of (i : Nat) (A B : List Node) (hB : ∃ y ∈ B, i < y.h) : prv i (A ++ B) = prv i B := by
  obtain ⟨y, hy, h⟩ := hB
  have := nxt_of i B.reverse A.reverse ⟨y, List.mem_reverse.2 hy, h⟩
  simpa [prv] using this

theorem prv_down (i : Nat) (P : List Node) : ∃ A B, P = A ++ B ∧ (∀ y ∈ B, y.h ≤ i) ∧ ∀ j, j ≤ i → prv j A = prv i P := by
  rcases split_last i P with h | ⟨A, x, B, rfl, h1, h2⟩
  · exact ⟨[], P, rfl, h, fun j hj => by rw [prv_none i P h]; rfl⟩
  · refine ⟨A ++ [x], B, by simp, h1, fun j hj => ?_⟩
    rw [prv_hit i A B x h1 h2]
    exact prv_hit j A [] x (by simp) (by omega)

def Links (nd : List Int) (ns : List Node) : Prop := ∀ P R, ns = P ++ R → ∀ i, i < 12 → G nd (prv i P + 4 + i) = ((nxt i R : Nat) : Int)

structure NodeOk (nd kv : List Int) (mh : Nat) (x : Node) : Prop where
  a : 16 ≤ x.a
  h1 : 1 ≤ x.h
  hm : x.h ≤ mh
  end_ : x.a + 4 + x.h ≤ nd.length
  cell : ∃ o : Nat, G nd x.a = (o : Int) ∧ o + x.key.length + x.val.length ≤ kv.length ∧ (kv.drop o).take x.key.length = x.key ∧ (kv.drop (o + x.key.length)).take x.val.length = x.val
  kl : G nd (x.a + 1) = (x.key.length : Int)
  vl : G nd (x.a + 2) = (x.val.length : Int)
  ht : G nd (x.a + 3) = (x.h : Int)

def Apart (x y : Node) : Prop := x.a + 4 + x.h ≤ y.a ∨ y.a + 4 + y.h ≤ x.a

structure Skip (nd kv : List Int) (mh : Nat) (ns : List Node) : Prop where
  links : Links nd ns
  ok : ∀ x ∈ ns, NodeOk nd kv mh x
  apart : ns.Pairwise Apart
  m1 : 1 ≤ mh
  m12 : mh ≤ 12
  len : 16 ≤ nd.length
  zero : G nd 0 = 0

theorem G_set_same {l : List Int} {i : Nat} (h : i < l.length) (v : Int) : G (l.set i v) i = v := by
  simp [G, List.getD_eq_getElem?_getD, h]

theorem G_set_ne {l : List Int} {i j : Nat} (h : i ≠ j) (v : Int) : G (l.set i v) j = G l j := by
  simp [G, List.getD_eq_getElem?_getD, List.getElem?_set_ne h]

theorem G_app_lt {l m : List Int} {i : Nat} (h : i < l.length) : G (l ++ m) i = G l i := by
  simp [G, List.getD_eq_getElem?_getD, List.getElem?_append_left h]

theorem G_app_ge {l m : List Int} (i : Nat) : G (l ++ m) (l.length + i) = G m i := by
  simp [G, List.getD_eq_getElem?_getD, List.getElem?_append_right]

theorem prv_is (i : Nat) (P : List Node) : prv i P = 0 ∨ ∃ x ∈ P, i < x.h ∧ prv i P = x.a := by
  rcases split_last i P with h | ⟨A, x, B, rfl, h1, h2⟩
  · exact .inl (prv_none i P h)
  · exact .inr ⟨x, by simp, h2, prv_hit i A B x h1 h2⟩

theorem nxt_is (i : Nat) (P : List Node) : nxt i P = 0 ∨ ∃ x ∈ P, i < x.h ∧ nxt i P = x.a := by
  rcases split_first i P with h | ⟨A, x, B, rfl, h1, h2⟩
  · exact .inl (nxt_none i P h)
  · exact .inr ⟨x, by simp, h2, nxt_hit i A B x h1 h2⟩

theorem Skip.slot {nd kv : List Int} {mh : Nat} {ns P R : List Node} (h : Skip nd kv mh ns) (e : ns = P ++ R) {i : Nat} (hi : i < 12) : prv i P + 4 + i < nd.length := by
  rcases prv_is i P with h0 | ⟨x, hx, h1, h2⟩
  · rw [h0]; have := h.len; omega
  · have := (h.ok x (by rw [e]; exact List.mem_append_left _ hx)).end_
    omega

theorem pair_ne {ns : List Node} (h : ns.Pairwise Apart) {x y : Node} (hx : x ∈ ns) (hy : y ∈ ns) : x = y ∨ Apart x y := by
  induction h with
  | nil => cases hx
  | @cons z l h1 h2 ih =>
    rcases List.mem_cons.1 hx with hxe | hx <;> rcases List.mem_cons.1 hy with hye | hy
    · exact .inl (hxe.trans hye.symm)
    · exact .inr (hxe ▸ h1 _ hy)
    · rw [hye]
      rcases h1 x hx with q | q
      · exact .inr (.inr q)
      · exact .inr (.inl q)
    · exact ih hx hy

theorem Skip.inj {nd kv : List Int} {mh : Nat} {ns : List Node} (h : Skip nd kv mh ns) {u v i j : Nat} (hu : (u = 0 ∧ i < 12) ∨ ∃ x ∈ ns, i < x.h ∧ u = x.a) (hv : (v = 0 ∧ j < 12) ∨ ∃ x ∈ ns, j < x.h ∧ v = x.a) (e : u + 4 + i = v + 4 + j) : u = v ∧ i = j := by
  rcases hu with ⟨rfl, h1⟩ | ⟨x, hx, h1, rfl⟩ <;> rcases hv with ⟨rfl, h2⟩ | ⟨y, hy, h2, rfl⟩
  · omega
  · have := (h.ok y hy).a; omega
  · have := (h.ok x hx).a; omega
  · rcases pair_ne h.apart hx hy with rfl | q | q
    · omega
    · omega
    · omega

theorem Skip.prv_slot {nd kv : List Int} {mh : Nat} {ns P R : List Node} (h : Skip nd kv mh ns) (e : ns = P ++ R) {i : Nat} (hi : i < 12) : (prv i P = 0 ∧ i < 12) ∨ ∃ x ∈ ns, i < x.h ∧ prv i P = x.a := by
  rcases prv_is i P with h0 | ⟨x, hx, h1, h2⟩
  · exact .inl ⟨h0, hi⟩
  · exact .inr ⟨x, by rw [e]; exact List.mem_append_left _ hx, h1, h2⟩

theorem Skip.cell_ne {nd kv : List Int} {mh : Nat} {ns : List Node} (h : Skip nd kv mh ns) {x : Node} (hx : x ∈ ns) {u i t : Nat} (hu : (u = 0 ∧ i < 12) ∨ ∃ y ∈ ns, i < y.h ∧ u = y.a) (ht : t < 4) : u + 4 + i ≠ x.a + t := by
  have ha := (h.ok x hx).a
  rcases hu with ⟨rfl, h1⟩ | ⟨y, hy, h1, rfl⟩
  · omega
  · rcases pair_ne h.apart hx hy with rfl | q | q <;> omega

theorem Skip.two_ne {nd kv : List Int} {mh : Nat} {ns : List Node} (h : Skip nd kv mh ns) {x y : Node} (hx : x ∈ ns) (hy : y ∈ ns) {s t : Nat} (hs : s < 4) (ht : t < 4) (hst : s ≠ t ∨ x ≠ y) : x.a + s ≠ y.a + t := by
  rcases pair_ne h.apart hx hy with rfl | q | q
  · rcases hst with q | q
    · omega
    · exact absurd rfl q
  · omega
  · omega

def putStep (node q i : Nat) (nd : List Int) : List Int := (nd ++ [G nd (q + 4 + i)]).set (q + 4 + i) (node : Int)

def putN (node : Nat) (P : List Node) : Nat → List Int → List Int
  | 0, nd => nd
  | n + 1, nd => putStep node (prv n P) n (putN node P n nd)

theorem putN_len (node : Nat) (P : List Node) (nd : List Int) (n : Nat) : (putN node P n nd).length = nd.length + n := by
  induction n with
  | zero => rfl
  | succ n ih => simp [putN, putStep, ih]; omega

structure PutTold (nd0 nd1 : List Int) (L : Nat) (P R : List Node) (n : Nat) : Prop where
  len : nd1.length = L + 4 + n
  hit : ∀ i, i < n → G nd1 (prv i P + 4 + i) = (L : Int)
  keep : ∀ k, k < L + 4 → (∀ i, i < n → k ≠ prv i P + 4 + i) → G nd1 k = G nd0 k
  new : ∀ i, i < n → G nd1 (L + 4 + i) = ((nxt i R : Nat) : Int)

theorem put_told {nd kv : List Int} {mh : Nat} {ns P R : List Node} (h : Skip nd kv mh ns) (e : ns = P ++ R) (xs : List Int) (hx : xs.length = 4) (n : Nat) (hn : n ≤ 12) : PutTold (nd ++ xs) (putN nd.length P n (nd ++ xs)) nd.length P R n := by
  induction n with
  | zero => exact ⟨by simp [putN, hx], by omega, fun k _ _ => rfl, by omega⟩
  | succ n ih =>
    have ih := ih (by omega)
    have hs := h.slot e (i := n) (by omega)
    have hl := ih.len
    have hne : ∀ i, i < n → prv n P + 4 + n ≠ prv i P + 4 + i := fun i hi q => by
      have := (h.inj (h.prv_slot e (i := n) (by omega)) (h.prv_slot e (i := i) (by omega)) q).2
      omega
    have hold : G (putN nd.length P n (nd ++ xs)) (prv n P + 4 + n) = ((nxt n R : Nat) : Int) := by
      rw [ih.keep _ (by omega) hne, G_app_lt hs]
      exact h.links P R e n (by omega)
    refine ⟨by simp [putN, putStep, hl]; omega, fun i hi => ?_, fun k hk hkn => ?_, fun i hi => ?_⟩
    · simp only [putN, putStep]
      by_cases q : i = n
      · subst q
        exact G_set_same (by simp [hl]; omega) _
      · rw [G_set_ne (hne i (by omega)), G_app_lt (by have := h.slot e (i := i) (by omega); omega)]
        exact ih.hit i (by omega)
    · simp only [putN, putStep]
      rw [G_set_ne (Ne.symm (hkn n (by omega))), G_app_lt (by omega)]
      exact ih.keep k hk fun i hi => hkn i (by omega)
    · simp only [putN, putStep]
      rw [G_set_ne (by omega)]
      by_cases q : i = n
      · subst q
        have := G_app_ge (l := putN nd.length P i (nd ++ xs)) (m := [G (putN nd.length P i (nd ++ xs)) (prv i P + 4 + i)]) 0
        rw [show nd.length + 4 + i = (putN nd.length P i (nd ++ xs)).length + 0 from by omega, this, hold]
        rfl
      · rw [G_app_lt (by omega)]
        exact ih.new i (by omega)

theorem mem_split {ns P R : List Node} (e : ns = P ++ R) : (∀ x ∈ P, x ∈ ns) ∧ ∀ x ∈ R, x ∈ ns := by
  subst e
  exact ⟨fun x hx => List.mem_append_left _ hx, fun x hx => List.mem_append_right _ hx⟩

theorem links_put {nd kv : List Int} {mh : Nat} {ns P R : List Node} (h : Skip nd kv mh ns) (e : ns = P ++ R) {nd0 nd1 : List Int} {z : Node} (hza : z.a = nd.length) (hzh : z.h ≤ 12) (ht : PutTold nd0 nd1 nd.length P R z.h) (h0 : ∀ k, k < nd.length → G nd0 k = G nd k) : Links nd1 (P ++ z :: R) := by
  intro P' R' e' i hi
  rcases List.append_eq_append_iff.1 e' with ⟨C, hC1, hC2⟩ | ⟨C, hC1, hC2⟩
  · -- the place is behind z's beginning
    cases C with
    | nil =>
      simp only [List.append_nil] at hC1
      simp only [List.nil_append] at hC2
      subst hC1 hC2
      by_cases q : i < z.h
      · rw [ht.hit i q, nxt, if_pos q, hza]
      · rw [ht.keep _ (by have := h.slot e hi; omega) ?_, h0 _ (h.slot e hi), h.links P' R e i hi, nxt, if_neg q]
        intro j hj q2
        have := (h.inj (h.prv_slot e hi) (h.prv_slot e (i := j) (by omega)) q2).2
        omega
    | cons c C =>
      simp only [List.cons_append, List.cons.injEq] at hC2
      obtain ⟨rfl, hC2⟩ := hC2
      subst hC1
      have e2 : ns = (P ++ C) ++ R' := by rw [e, hC2, List.append_assoc]
      by_cases q : ∃ y ∈ C, i < y.h
      · have q1 : prv i (P ++ z :: C) = prv i (P ++ C) := by
          rw [prv_of i P C q, show P ++ z :: C = (P ++ [z]) ++ C from by simp, prv_of i (P ++ [z]) C q]
        rw [q1, ht.keep _ (by have := h.slot e2 hi; omega) ?_, h0 _ (h.slot e2 hi), h.links (P ++ C) R' e2 i hi]
        intro j hj q2
        have q3 := h.inj (h.prv_slot e2 hi) (h.prv_slot e (i := j) (by omega)) q2
        obtain ⟨q4, rfl⟩ := q3
        rw [prv_of i P C q] at q4
        rcases prv_is i C with w0 | ⟨y, hy, y1, y2⟩
        · rcases split_last i C with u | ⟨A, x, B, u, u1, u2⟩
          · obtain ⟨y, hy, y1⟩ := q
            have := u y hy
            omega
          · have hxm : x ∈ ns := (mem_split e).2 x (by rw [hC2, u]; simp)
            have := (h.ok x hxm).a
            rw [u, prv_hit i A B x u1 u2] at w0
            omega
        · rw [y2] at q4
          have hyR : y ∈ R := by rw [hC2]; exact List.mem_append_left _ hy
          have hyn := (mem_split e).2 y hyR
          have hya := (h.ok y hyn).a
          rcases prv_is i P with w0 | ⟨x, hx, x1, x2⟩
          · omega
          · rw [x2] at q4
            have hap := h.apart
            rw [e] at hap
            have := (List.pairwise_append.1 hap).2.2 x hx y hyR
            rcases this with v | v <;> omega
      · have hlow : ∀ y ∈ C, y.h ≤ i := fun y hy => Nat.not_lt.1 fun q2 => q ⟨y, hy, q2⟩
        have hR : nxt i R = nxt i R' := by rw [hC2]; exact nxt_app i C R' hlow
        by_cases q2 : i < z.h
        · rw [prv_hit i P C z hlow q2, hza, ht.new i q2, hR]
        · have q3 : prv i (P ++ z :: C) = prv i P := by
            refine prv_low i P (z :: C) fun y hy => ?_
            rcases List.mem_cons.1 hy with rfl | hy
            · omega
            · exact hlow y hy
          rw [q3, ht.keep _ (by have := h.slot e hi; omega) ?_, h0 _ (h.slot e hi), h.links P R e i hi, hR]
          intro j hj q4
          have := (h.inj (h.prv_slot e hi) (h.prv_slot e (i := j) (by omega)) q4).2
          omega
  · -- the place is ahead of z
    subst hC2
    have e2 : ns = P' ++ (C ++ R) := by rw [e, hC1, List.append_assoc]
    by_cases q : ∃ y ∈ C, i < y.h
    · rw [ht.keep _ (by have := h.slot e2 hi; omega) ?_, h0 _ (h.slot e2 hi), h.links P' (C ++ R) e2 i hi, nxt_of i C _ q, nxt_of i C _ q]
      intro j hj q2
      obtain ⟨q4, rfl⟩ := h.inj (h.prv_slot e2 hi) (h.prv_slot e (i := j) (by omega)) q2
      rw [hC1, prv_of i P' C q] at q4
      rcases split_last i C with u | ⟨A, y, B, u, u1, u2⟩
      · obtain ⟨y, hy, y1⟩ := q
        have := u y hy
        omega
      · rw [u, prv_hit i A B y u1 u2] at q4
        have hyC : y ∈ C := by rw [u]; simp
        have hyn : y ∈ ns := by rw [e, hC1]; simp [hyC]
        have hya := (h.ok y hyn).a
        rcases prv_is i P' with w0 | ⟨x, hx, x1, x2⟩
        · omega
        · rw [x2] at q4
          have hap := h.apart
          rw [e2] at hap
          have := (List.pairwise_append.1 hap).2.2 x hx y (List.mem_append_left _ hyC)
          rcases this with v | v <;> omega
    · have hlow : ∀ y ∈ C, y.h ≤ i := fun y hy => Nat.not_lt.1 fun q2 => q ⟨y, hy, q2⟩
      have hp : prv i P' = prv i P := by rw [hC1, prv_low i P' C hlow]
      by_cases q2 : i < z.h
      · rw [hp, ht.hit i q2, nxt_hit i C R z hlow q2, hza]
      · rw [hp, ht.keep _ (by have := h.slot e hi; omega) ?_, h0 _ (h.slot e hi), h.links P R e i hi, nxt_app i C _ hlow, nxt, if_neg q2]
        intro j hj q4
        have := (h.inj (h.prv_slot e hi) (h.prv_slot e (i := j) (by omega)) q4).2
        omega

theorem NodeOk.keep {nd nd' kv kv' : List Int} {mh mh' : Nat} {x : Node} (h : NodeOk nd kv mh x) (hg : ∀ t, t < 4 → G nd' (x.a + t) = G nd (x.a + t)) (hl : nd.length ≤ nd'.length) (hm : mh ≤ mh') (t : List Int) (hk : kv' = kv ++ t) : NodeOk nd' kv' mh' x := by
  obtain ⟨o, h1, h2, h3, h4⟩ := h.cell
  refine ⟨h.a, h.h1, Nat.le_trans h.hm hm, Nat.le_trans h.end_ hl, ⟨o, (hg 0 (by omega)).trans h1, by rw [hk, List.length_append]; omega, ?_, ?_⟩, (hg 1 (by omega)).trans h.kl, (hg 2 (by omega)).trans h.vl, (hg 3 (by omega)).trans h.ht⟩
  · rw [hk, List.drop_append_of_le_length (by omega), List.take_append_of_le_length (by rw [List.length_drop]; omega)]
    exact h3
  · rw [hk, List.drop_append_of_le_length (by omega), List.take_append_of_le_length (by rw [List.length_drop]; omega)]
    exact h4

theorem skip_put {nd kv : List Int} {mh : Nat} {ns P R : List Node} (h : Skip nd kv mh ns) (e : ns = P ++ R) (key val : List Int) (n mh' : Nat) (h1 : 1 ≤ n) (h2 : n ≤ 12) (h3 : n ≤ mh') (h4 : mh ≤ mh') (h5 : mh' ≤ 12) :
    Skip (putN nd.length P n (nd ++ [(kv.length : Int), (key.length : Int), (val.length : Int), (n : Int)])) (kv ++ (key ++ val)) mh' (P ++ ⟨nd.length, n, key, val⟩ :: R) := by
  have ht := put_told h e [(kv.length : Int), (key.length : Int), (val.length : Int), (n : Int)] rfl n h2
  generalize hnd1 : putN nd.length P n (nd ++ [(kv.length : Int), (key.length : Int), (val.length : Int), (n : Int)]) = nd1 at ht
  have hold : ∀ k, k < nd.length → G (nd ++ [(kv.length : Int), (key.length : Int), (val.length : Int), (n : Int)]) k = G nd k := fun k hk => G_app_lt hk
  have hz : ∀ t, t < 4 → G nd1 (nd.length + t) = G [(kv.length : Int), (key.length : Int), (val.length : Int), (n : Int)] t := fun t ht4 => by
    rw [ht.keep _ (by omega) (fun i hi => by have := h.slot e (i := i) (by omega); omega)]
    exact G_app_ge t
  have hl := ht.len
  have hlen := h.len
  have hok : ∀ x ∈ ns, NodeOk nd1 (kv ++ (key ++ val)) mh' x := fun x hx =>
    (h.ok x hx).keep (fun t ht4 => by
      have := (h.ok x hx).end_
      have := (h.ok x hx).h1
      rw [ht.keep _ (by omega) (fun i hi => Ne.symm (h.cell_ne hx (h.prv_slot e (i := i) (by omega)) ht4)), hold _ (by omega)]) (by omega) h4 _ rfl
  refine ⟨links_put h e (z := ⟨nd.length, n, key, val⟩) rfl h2 ht hold, ?_, ?_, Nat.le_trans h.m1 h4, h5, by omega, ?_⟩
  · intro x hx
    rcases List.mem_append.1 hx with q | q
    · exact hok x ((mem_split e).1 x q)
    · rcases List.mem_cons.1 q with rfl | q
      · refine ⟨h.len, h1, h3, by show nd.length + 4 + n ≤ _; omega, ⟨kv.length, (hz 0 (by omega)), by simp; omega, ?_, ?_⟩, hz 1 (by omega), hz 2 (by omega), hz 3 (by omega)⟩
        · simp
        · simp
      · exact hok x ((mem_split e).2 x q)
  · have hap := h.apart
    rw [e] at hap
    obtain ⟨p1, p2, p3⟩ := List.pairwise_append.1 hap
    refine List.pairwise_append.2 ⟨p1, List.pairwise_cons.2 ⟨fun y hy => .inr ?_, p2⟩, fun x hx y hy => ?_⟩
    · exact (h.ok y ((mem_split e).2 y hy)).end_
    · rcases List.mem_cons.1 hy with rfl | hy
      · exact .inl (h.ok x ((mem_split e).1 x hx)).end_
      · exact p3 x hx y hy
  · rw [ht.keep 0 (by omega) (fun i hi => by omega), hold 0 (by omega)]
    exact h.zero

structure DelTold (nd nd1 : List Int) (P R : List Node) (n : Nat) : Prop where
  len : nd1.length = nd.length
  hit : ∀ i, i < n → G nd1 (prv i P + 4 + i) = ((nxt i R : Nat) : Int)
  keep : ∀ k, (∀ i, i < n → k ≠ prv i P + 4 + i) → G nd1 k = G nd k

theorem nxt_val (i : Nat) (A B : List Node) (x : Node) (v : List Int) : nxt i (A ++ { x with val := v } :: B) = nxt i (A ++ x :: B) := by
  induction A with
  | nil => rfl
  | cons y A ih => simp only [List.cons_append, nxt, ih]

theorem prv_val (i : Nat) (A B : List Node) (x : Node) (v : List Int) : prv i (A ++ { x with val := v } :: B) = prv i (A ++ x :: B) := by
  have := nxt_val i B.reverse A.reverse x v
  simpa [prv] using this

theorem links_val {nd nd1 : List Int} {P R : List Node} {x : Node} {v : List Int} (h : Links nd (P ++ x :: R)) (hk : ∀ A B, P ++ x :: R = A ++ B → ∀ i, i < 12 → G nd1 (prv i A + 4 + i) = G nd (prv i A + 4 + i)) : Links nd1 (P ++ { x with val := v } :: R) := by
  intro P' R' e' i hi
  rcases List.append_eq_append_iff.1 e' with ⟨C, hC1, hC2⟩ | ⟨C, hC1, hC2⟩
  · cases C with
    | nil =>
      simp only [List.append_nil] at hC1
      simp only [List.nil_append] at hC2
      subst hC1 hC2
      rw [hk P' (x :: R) rfl i hi, h P' (x :: R) rfl i hi]
      exact congrArg _ (nxt_val i [] R x v).symm
    | cons c C =>
      simp only [List.cons_append, List.cons.injEq] at hC2
      obtain ⟨rfl, hC2⟩ := hC2
      subst hC1
      have e2 : P ++ x :: R = (P ++ x :: C) ++ R' := by rw [hC2]; simp
      rw [prv_val, hk _ R' e2 i hi, h _ R' e2 i hi]
  · subst hC2
    have e2 : P ++ x :: R = P' ++ (C ++ x :: R) := by rw [hC1]; simp
    rw [hk P' _ e2 i hi, h P' _ e2 i hi]
    exact congrArg _ (nxt_val i C R x v).symm

theorem skip_val {nd kv : List Int} {mh : Nat} {ns P R : List Node} {x : Node} (h : Skip nd kv mh ns) (e : ns = P ++ x :: R) (val : List Int) : Skip ((nd.set x.a (kv.length : Int)).set (x.a + 2) (val.length : Int)) (kv ++ (x.key ++ val)) mh (P ++ { x with val := val } :: R) := by
  have hxn : x ∈ ns := by rw [e]; simp
  have hxo := h.ok x hxn
  have hxe := hxo.end_
  have hx1 := hxo.h1
  have hxa := hxo.a
  have hkeep : ∀ k, k ≠ x.a → k ≠ x.a + 2 → G ((nd.set x.a (kv.length : Int)).set (x.a + 2) (val.length : Int)) k = G nd k := fun k h1 h2 => by
    rw [G_set_ne (Ne.symm h2), G_set_ne (Ne.symm h1)]
  have hoth : ∀ y ∈ ns, y ≠ x → NodeOk ((nd.set x.a (kv.length : Int)).set (x.a + 2) (val.length : Int)) (kv ++ (x.key ++ val)) mh y := fun y hy hyx =>
    (h.ok y hy).keep (fun t ht => hkeep _ (fun q => h.two_ne hy hxn ht (t := 0) (by omega) (.inr hyx) (by omega)) (fun q => h.two_ne hy hxn ht (t := 2) (by omega) (.inr hyx) q)) (by simp) (Nat.le_refl _) _ rfl
  have hap := h.apart
  rw [e] at hap
  obtain ⟨p1, p2, p3⟩ := List.pairwise_append.1 hap
  obtain ⟨p4, p5⟩ := List.pairwise_cons.1 p2
  have hself : ∀ y : Node, Apart y x → 1 ≤ y.h → y ≠ x := fun y q hy1 q2 => by
    subst q2
    rcases q with q | q <;> omega
  have hself2 : ∀ y : Node, Apart x y → y ≠ x := fun y q q2 => by
    subst q2
    rcases q with q | q <;> omega
  have hlk := h.links
  rw [e] at hlk
  refine ⟨links_val hlk fun A B hAB i hi => ?_, fun y hy => ?_, ?_, h.m1, h.m12, by simpa using h.len, ?_⟩
  · have hs := h.prv_slot (e.trans hAB) hi
    refine hkeep _ (fun q => h.cell_ne hxn hs (t := 0) (by omega) (by omega)) (fun q => h.cell_ne hxn hs (t := 2) (by omega) (by omega))
  · rcases List.mem_append.1 hy with q | q
    · exact hoth y ((mem_split e).1 y q) (hself y (p3 y q x List.mem_cons_self) (by have := (h.ok y ((mem_split e).1 y q)).h1; omega))
    · rcases List.mem_cons.1 q with rfl | q
      · refine ⟨hxo.a, hxo.h1, hxo.hm, by simpa using hxe, ⟨kv.length, ?_, ?_, ?_, ?_⟩, ?_, ?_, ?_⟩
        · show G _ x.a = _
          rw [G_set_ne (by omega), G_set_same (by omega)]
        · simp; omega
        · simp
        · simp
        · show G _ (x.a + 1) = _
          rw [hkeep _ (by omega) (by omega)]; exact hxo.kl
        · show G _ (x.a + 2) = _
          rw [G_set_same (by simp; omega)]
        · show G _ (x.a + 3) = _
          rw [hkeep _ (by omega) (by omega)]; exact hxo.ht
      · exact hoth y ((mem_split e).2 y (List.mem_cons_of_mem _ q)) (hself2 y (p4 y q))
  · refine List.pairwise_append.2 ⟨p1, List.pairwise_cons.2 ⟨fun y hy => p4 y hy, p5⟩, fun u hu v hv => ?_⟩
    rcases List.mem_cons.1 hv with rfl | hv
    · exact p3 u hu x List.mem_cons_self
    · exact p3 u hu v (List.mem_cons_of_mem _ hv)
  · rw [hkeep 0 (by omega) (by omega)]
    exact h.zero

theorem skip_new (nd : List Int) (hl : nd.length = 16) (hz : ∀ i, i ≠ 3 → G nd i = 0) : Skip nd [] 1 [] := by
  refine ⟨fun P R e i hi => ?_, by simp, .nil, by omega, by omega, by omega, hz 0 (by omega)⟩
  obtain ⟨rfl, rfl⟩ := List.append_eq_nil_iff.1 e.symm
  exact hz _ (by show 0 + 4 + i ≠ 3; omega)

end Go.Proofs.YtdkkkikcigjlhaaGreatDoor.Md

namespace Go.Proofs.YtdkkkikcigjlhaaGreatDoor.Cmp

def Byt (l : List Int) : Prop := ∀ x ∈ l, 0 ≤ x ∧ x ≤ 255

def cmpI : List Int → List Int → Int
  | [], [] => 0
  | [], _ :: _ => -1
  | _ :: _, [] => 1
  | a :: l, b :: m => if a < b then -1 else if b < a then 1 else cmpI l m

theorem cmpI_three : ∀ l m, cmpI l m = -1 ∨ cmpI l m = 0 ∨ cmpI l m = 1
  | [], [] => by simp [cmpI]
  | [], _ :: _ => by simp [cmpI]
  | _ :: _, [] => by simp [cmpI]
  | a :: l, b :: m => by
    unfold cmpI
    by_cases h : a < b
    · simp [h]
    · by_cases h2 : b < a
      · simp [h, h2]
      · rw [if_neg h, if_neg h2]; exact cmpI_three l m

theorem cmpI_swap : ∀ l m, cmpI m l = - cmpI l m
  | [], [] => by simp [cmpI]
  | [], _ :: _ => by simp [cmpI]
  | _ :: _, [] => by simp [cmpI]
  | a :: l, b :: m => by
    unfold cmpI
    by_cases h : a < b
    · have h2 : ¬ b < a := by omega
      simp [h, h2]
    · by_cases h2 : b < a
      · simp [h, h2]
      · rw [if_neg h, if_neg h2, if_neg h2, if_neg h]; exact cmpI_swap l m

theorem cmpI_refl : ∀ l, cmpI l l = 0
  | [] => rfl
  | a :: l => by
    unfold cmpI
    rw [if_neg (by omega), if_neg (by omega)]; exact cmpI_refl l

theorem cmpI_eq : ∀ l m, cmpI l m = 0 → l = m
  | [], [], _ => rfl
  | [], _ :: _, h => by simp [cmpI] at h
  | _ :: _, [], h => by simp [cmpI] at h
  | a :: l, b :: m, h => by
    unfold cmpI at h
    by_cases h1 : a < b
    · simp [h1] at h
    · by_cases h2 : b < a
      · simp [h1, h2] at h
      · rw [if_neg h1, if_neg h2] at h
        have e : a = b := by omega
        rw [e, cmpI_eq l m h]

theorem cmpI_zero {l m : List Int} : cmpI l m = 0 ↔ l = m := ⟨cmpI_eq l m, fun h => h ▸ cmpI_refl l⟩

theorem cmpI_trans : ∀ l m k, cmpI l m < 0 → cmpI m k < 0 → cmpI l k < 0
  | [], [], _, h, _ => by simp [cmpI] at h
  | _ :: _, [], _, h, _ => by simp [cmpI] at h
  | _, _ :: _, [], _, h => by simp [cmpI] at h
  | [], _ :: _, _ :: _, _, _ => by simp [cmpI]
  | a :: l, b :: m, c :: k, h, g => by
    unfold cmpI at h g ⊢
    by_cases h1 : a < b
    · by_cases g1 : b < c
      · rw [if_pos (by omega)]; omega
      · by_cases g2 : c < b
        · rw [if_neg g1, if_pos g2] at g; omega
        · rw [if_pos (by omega)]; omega
    · by_cases h2 : b < a
      · rw [if_neg h1, if_pos h2] at h; omega
      · rw [if_neg h1, if_neg h2] at h
        by_cases g1 : b < c
        · rw [if_pos (by omega)]; omega
        · by_cases g2 : c < b
          · rw [if_neg g1, if_pos g2] at g; omega
          · rw [if_neg g1, if_neg g2] at g
            rw [if_neg (by omega), if_neg (by omega)]
            exact cmpI_trans l m k h g

theorem cmpI_nil (l : List Int) : ¬ cmpI l [] < 0 := by
  cases l <;> simp [cmpI]
theorem cmpI_nil_left (l : List Int) : cmpI [] l < 0 ↔ l ≠ [] := by
  cases l <;> simp [cmpI]

def cmpO (o : Int) (l m : List Int) : Int :=
  if o = 1 then (if l.length = 0 ∨ m.length = 0 then cmpI l m else cmpI m l)
  else if o = 2 then (if l.length = m.length then cmpI l m else if l.length < m.length then -1 else 1)
  else cmpI l m

theorem cmpO_three (o : Int) (l m : List Int) : cmpO o l m = -1 ∨ cmpO o l m = 0 ∨ cmpO o l m = 1 := by
  unfold cmpO
  have h1 := cmpI_three l m
  have h2 := cmpI_three m l
  by_cases a : o = 1
  · rw [if_pos a]; split <;> assumption
  · rw [if_neg a]
    by_cases b : o = 2
    · rw [if_pos b]; split
      · exact h1
      · split <;> omega
    · rw [if_neg b]; exact h1

theorem cmpO_swap (o : Int) (l m : List Int) : cmpO o m l = - cmpO o l m := by
  unfold cmpO
  have h1 := cmpI_swap l m
  by_cases a : o = 1
  · rw [if_pos a, if_pos a]
    by_cases z : l.length = 0 ∨ m.length = 0
    · rw [if_pos z, if_pos (by omega)]; exact h1
    · rw [if_neg z, if_neg (by omega)]; omega
  · rw [if_neg a, if_neg a]
    by_cases b : o = 2
    · rw [if_pos b, if_pos b]
      by_cases e : l.length = m.length
      · rw [if_pos e, if_pos e.symm]; exact h1
      · rw [if_neg e, if_neg (Ne.symm e)]
        by_cases c : l.length < m.length
        · rw [if_pos c, if_neg (by omega)]; omega
        · rw [if_neg c, if_pos (by omega)]
    · rw [if_neg b, if_neg b]; exact h1

theorem cmpO_zero {o : Int} {l m : List Int} : cmpO o l m = 0 ↔ l = m := by
  unfold cmpO
  by_cases a : o = 1
  · rw [if_pos a]
    split
    · exact cmpI_zero
    · rw [cmpI_zero]; exact eq_comm
  · rw [if_neg a]
    by_cases b : o = 2
    · rw [if_pos b]
      by_cases e : l.length = m.length
      · rw [if_pos e]; exact cmpI_zero
      · rw [if_neg e]
        constructor
        · split <;> omega
        · intro h; exact absurd (h ▸ rfl) e
    · rw [if_neg b]; exact cmpI_zero

theorem len_zero {l : List Int} (h : l.length = 0) : l = [] := List.eq_nil_of_length_eq_zero h

theorem cmpO_trans (o : Int) (l m k : List Int) (h : cmpO o l m < 0) (g : cmpO o m k < 0) : cmpO o l k < 0 := by
  unfold cmpO at h g ⊢
  by_cases a : o = 1
  · rw [if_pos a] at h g ⊢
    by_cases zm : m.length = 0
    · rw [if_pos (Or.inr zm), len_zero zm] at h
      exact absurd h (cmpI_nil l)
    · by_cases zk : k.length = 0
      · rw [if_pos (Or.inr zk), len_zero zk] at g
        exact absurd g (cmpI_nil m)
      · rw [if_neg (by omega)] at g
        by_cases zl : l.length = 0
        · rw [if_pos (Or.inl zl), len_zero zl, cmpI_nil_left]
          intro e; rw [e] at zk; exact zk rfl
        · rw [if_neg (by omega)] at h
          rw [if_neg (by omega)]
          exact cmpI_trans k m l g h
  · rw [if_neg a] at h g ⊢
    by_cases b : o = 2
    · rw [if_pos b] at h g ⊢
      by_cases e : l.length = m.length
      · rw [if_pos e] at h
        by_cases f : m.length = k.length
        · rw [if_pos f] at g
          rw [if_pos (by omega)]; exact cmpI_trans l m k h g
        · rw [if_neg f] at g
          by_cases f2 : m.length < k.length
          · rw [if_neg (by omega), if_pos (by omega)]; omega
          · rw [if_neg f2] at g; omega
      · rw [if_neg e] at h
        by_cases e2 : l.length < m.length
        · by_cases f : m.length = k.length
          · rw [if_neg (by omega), if_pos (by omega)]; omega
          · rw [if_neg f] at g
            by_cases f2 : m.length < k.length
            · rw [if_neg (by omega), if_pos (by omega)]; omega
            · rw [if_neg f2] at g; omega
        · rw [if_neg e2] at h; omega
    · rw [if_neg b] at h g ⊢; exact cmpI_trans l m k h g

end Go.Proofs.YtdkkkikcigjlhaaGreatDoor.Cmp
