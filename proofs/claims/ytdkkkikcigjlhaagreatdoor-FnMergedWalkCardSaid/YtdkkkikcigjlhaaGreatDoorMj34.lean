/- The memory table: Reset. The laws' own bounds: fewOps. impl's MemScript: what operations leave of a sorted list, and tell of it; the table in the midst of a script. impl's MemScript: what the end of a round needs. impl's copied makes slices that are not nil. -/
import Derived.Test.YtdkkkikcigjlhaaGreatDoorMj33
import Derived.Test.YtdkkkikcigjlhaaGreatDoorMj15
import Derived.Test.YtdkkkikcigjlhaaGreatDoorMj29
import Derived.Test.YtdkkkikcigjlhaaGreatDoorMj25
set_option linter.unusedVariables false
set_option linter.unusedSimpArgs false
namespace Go.Proofs.YtdkkkikcigjlhaaGreatDoor.Md
open Go.RowKit Go.Proofs.YtdkkkikcigjlhaaGreatDoor.Con Go.Proofs.YtdkkkikcigjlhaaGreatDoor.Run Go.Proofs.YtdkkkikcigjlhaaGreatDoorW.PrintWords Go.Proofs.YtdkkkikcigjlhaaGreatDoorW.PrintMore Go.Proofs.YtdkkkikcigjlhaaGreatDoor.Cmp Go.Sort Go.RwLone Go.Proofs.YtdkkkikcigjlhaaGreatDoor.PFnMemMap

theorem Cs.set1 {cs : Array Value} {V : Value} {r : Nat} {l0 l4 : Int} {vk vn : Value} {q : Nat → Int} {mh n sz : Int} (h : Cs cs V r l0 l4 vk vn q mh n sz) (r' : Nat) : Cs (cs.setIfInBounds 1 (.pointer (some ⟨r', 0, none⟩))) V r' l0 l4 vk vn q mh n sz := by
  have hs := h.size
  exact ⟨by simpa using hs, (set_ne (by omega) _).trans h.c0, set_eq (by omega) _, (set_ne (by omega) _).trans h.c2, (set_ne (by omega) _).trans h.c4, (set_ne (by omega) _).trans h.c5, (set_ne (by omega) _).trans h.c6, (set_ne (by omega) _).trans h.c8, (set_ne (by omega) _).trans h.c9, fun i hi => (set_ne (by omega) _).trans (h.cq i hi), (set_ne (by omega) _).trans h.c22, (set_ne (by omega) _).trans h.c23, (set_ne (by omega) _).trans h.c24⟩

structure RsSt (w W : World) (base p g ck c : Nat) (Kx : Option Addr) (V : Value) (r : Nat) (l0 l4 : Int) (q : Nat → Int) (mh n sz : Int) (cs : Array Value) (kv nd : List Int) (kn nn : Nat) : Prop where
  T : Tab W base p cs (.slice Kx kn ck) (.slice (some ⟨g, 0, none⟩) nn c) kv nd
  C : Cs cs V r l0 l4 (.slice Kx kn ck) (.slice (some ⟨g, 0, none⟩) nn c) q mh n sz
  F : Fr w W (fun k => k = p ∨ k = g)
  kl : kv.length = kn
  nl : nd.length = nn

section
variable {w W : World} {base p g ck c r kn nn : Nat} {Kx : Option Addr} {V : Value} {l0 l4 mh n sz : Int} {q : Nat → Int} {cs : Array Value} {kv nd : List Int}

theorem RsSt.setP (h : RsSt w W base p g ck c Kx V r l0 l4 q mh n sz cs kv nd kn nn) (i : Nat) (u : Value) : Tab (W.setCell ⟨p, i, none⟩ u) base p (cs.setIfInBounds i u) (.slice Kx kn ck) (.slice (some ⟨g, 0, none⟩) nn c) kv nd ∧ Fr w (W.setCell ⟨p, i, none⟩ u) (fun k => k = p ∨ k = g) := ⟨h.T.set i u, h.F.setCell (p := ⟨p, i, none⟩) (.inl (.inl rfl)) u⟩
theorem RsSt.s22 (h : RsSt w W base p g ck c Kx V r l0 l4 q mh n sz cs kv nd kn nn) (v : Int) : RsSt w (W.setCell ⟨p, 22, none⟩ (.int .i64 v)) base p g ck c Kx V r l0 l4 q v n sz (cs.setIfInBounds 22 (.int .i64 v)) kv nd kn nn := ⟨(h.setP 22 _).1, h.C.set22 v, (h.setP 22 _).2, h.kl, h.nl⟩
theorem RsSt.s23 (h : RsSt w W base p g ck c Kx V r l0 l4 q mh n sz cs kv nd kn nn) (v : Int) : RsSt w (W.setCell ⟨p, 23, none⟩ (.int .i64 v)) base p g ck c Kx V r l0 l4 q mh v sz (cs.setIfInBounds 23 (.int .i64 v)) kv nd kn nn := ⟨(h.setP 23 _).1, h.C.set23 v, (h.setP 23 _).2, h.kl, h.nl⟩
theorem RsSt.s24 (h : RsSt w W base p g ck c Kx V r l0 l4 q mh n sz cs kv nd kn nn) (v : Int) : RsSt w (W.setCell ⟨p, 24, none⟩ (.int .i64 v)) base p g ck c Kx V r l0 l4 q mh n v (cs.setIfInBounds 24 (.int .i64 v)) kv nd kn nn := ⟨(h.setP 24 _).1, h.C.set24 v, (h.setP 24 _).2, h.kl, h.nl⟩
theorem RsSt.sq (h : RsSt w W base p g ck c Kx V r l0 l4 q mh n sz cs kv nd kn nn) {i : Nat} (hi : i < 12) (v : Int) : RsSt w (W.setCell ⟨p, 10 + i, none⟩ (.int .i64 v)) base p g ck c Kx V r l0 l4 (fun j => if j = i then v else q j) mh n sz (cs.setIfInBounds (10 + i) (.int .i64 v)) kv nd kn nn := ⟨(h.setP _ _).1, h.C.setq hi v, (h.setP _ _).2, h.kl, h.nl⟩
theorem RsSt.s2 (h : RsSt w W base p g ck c Kx V r l0 l4 q mh n sz cs kv nd kn nn) (v : Int) : RsSt w (W.setCell ⟨p, 2, none⟩ (.int .i32 v)) base p g ck c Kx V r v l4 q mh n sz (cs.setIfInBounds 2 (.int .i32 v)) kv nd kn nn := ⟨(h.setP 2 _).1, h.C.set2 v, (h.setP 2 _).2, h.kl, h.nl⟩
theorem RsSt.s6 (h : RsSt w W base p g ck c Kx V r l0 l4 q mh n sz cs kv nd kn nn) (v : Int) : RsSt w (W.setCell ⟨p, 6, none⟩ (.int .i32 v)) base p g ck c Kx V r l0 v q mh n sz (cs.setIfInBounds 6 (.int .i32 v)) kv nd kn nn := ⟨(h.setP 6 _).1, h.C.set6 v, (h.setP 6 _).2, h.kl, h.nl⟩

theorem RsSt.num (h : RsSt w W base p g ck c Kx V r l0 l4 q mh n sz cs kv nd kn nn) (i : Nat) (v : Int) : RsSt w (W.setCell ⟨g, i, none⟩ (.int .i64 v)) base p g ck c Kx V r l0 l4 q mh n sz cs kv (nd.set i v) kn nn := by
  have hT := h.T
  rw [← h.nl] at hT
  have := hT.setNd i v
  rw [h.nl] at this
  exact ⟨this, h.C, h.F.setCell (p := ⟨g, i, none⟩) (.inl (.inr rfl)) _, h.kl, by rw [List.length_set]; exact h.nl⟩
theorem RsSt.cellP (h : RsSt w W base p g ck c Kx V r l0 l4 q mh n sz cs kv nd kn nn) (i : Nat) {u : Value} (hu : cs[i]? = some u) : W.cell? ⟨p, i, none⟩ = some u ∧ W.frozen? ⟨p, i, none⟩ = false := ⟨(blk_cell h.T.cell i).trans hu, blk_frozen h.T.cell i⟩
end

theorem RsSt.below {w W W1 : World} {base p g ck c r kn nn : Nat} {Kx : Option Addr} {V : Value} {l0 l4 mh n sz : Int} {q : Nat → Int} {cs : Array Value} {kv nd : List Int} (h : RsSt w W base p g ck c Kx V r l0 l4 q mh n sz cs kv nd kn nn) (hb : Below W.heap.size W W1) : RsSt w W1 base p g ck c Kx V r l0 l4 q mh n sz cs kv nd kn nn :=
  ⟨h.T.below hb, h.C, h.F.then_ (Fr.of_below hb (fun _ => False)) (fun k hk => hk.elim), h.kl, h.nl⟩
theorem RsSt.s1 {w W : World} {base p g ck c r kn nn : Nat} {Kx : Option Addr} {V : Value} {l0 l4 mh n sz : Int} {q : Nat → Int} {cs : Array Value} {kv nd : List Int} (h : RsSt w W base p g ck c Kx V r l0 l4 q mh n sz cs kv nd kn nn) (r' : Nat) : RsSt w (W.setCell ⟨p, 1, none⟩ (.pointer (some ⟨r', 0, none⟩))) base p g ck c Kx V r' l0 l4 q mh n sz (cs.setIfInBounds 1 (.pointer (some ⟨r', 0, none⟩))) kv nd kn nn := ⟨(h.setP 1 _).1, h.C.set1 r', (h.setP 1 _).2, h.kl, h.nl⟩

end Go.Proofs.YtdkkkikcigjlhaaGreatDoor.Md

namespace Go.Proofs.YtdkkkikcigjlhaaGreatDoor.Md
open Go.RowKit Go.Proofs.YtdkkkikcigjlhaaGreatDoor.Con Go.Proofs.YtdkkkikcigjlhaaGreatDoor.Run Go.Proofs.YtdkkkikcigjlhaaGreatDoorW.PrintWords Go.Proofs.YtdkkkikcigjlhaaGreatDoorW.PrintMore Go.Proofs.YtdkkkikcigjlhaaGreatDoor.Cmp Go.Sort Go.RwLone Go.Proofs.YtdkkkikcigjlhaaGreatDoor.PFnMemMap

def sumO (l : List S77) : Nat := (l.map fun x => x.f1.length + x.f2.length).sum
theorem sumO_snoc (l : List S77) (x : S77) : sumO (l ++ [x]) = sumO l + (x.f1.length + x.f2.length) := by simp [sumO]

structure S79 where
  f0 : List Int
  f1 : List Int
  f2 : Int
  f3 : Bool
def stepL (f : List Int → List Int → Int) (L : List KV) (x : S77) : List KV :=
  if x.f0 = 0 then putL f x.f1 x.f2 L else if x.f0 = 1 then dropL f x.f1 L else if x.f0 = 2 then L else if x.f0 = 3 then L else if x.f0 = 4 then L else if x.f0 = 5 then L else if x.f0 = 6 then L else []
def endM (f : List Int → List Int → Int) (l : List S77) : List KV := l.foldl (stepL f) []
theorem endM_snoc (f : List Int → List Int → Int) (l : List S77) (x : S77) : endM f (l ++ [x]) = stepL f (endM f l) x := by
  unfold endM
  rw [List.foldl_append]
  rfl
structure Hold (St : World → Int → (Nat → Prop) → Prop) : Prop where
  inside : ∀ w i F, St w i F → ∀ k, F k → k < w.heap.size
  keep : ∀ w w1 i F, St w i F → (∀ k, F k → w1.heap[k]? = w.heap[k]?) → w.heap.size ≤ w1.heap.size → St w1 i F

section
variable {St : World → Int → (Nat → Prop) → Prop} {w W W1 : World} {F F' q : Nat → Prop} {i j : Int}
theorem Hold.keepF (I : Hold St) (h : MvS St w F W i q F') (hk : ∀ k, F' k → W1.heap[k]? = W.heap[k]?) (hs : W.heap.size ≤ W1.heap.size) (hf : Fr w W1 F) : MvS St w F W1 i q F' :=
  ⟨I.keep _ _ _ _ h.st hk hs, hf, h.own, h.off, fun k hk => ⟨(h.new k hk).1, Nat.lt_of_lt_of_le (h.new k hk).2 hs⟩⟩
theorem Hold.set (I : Hold St) (h : MvS St w F W i q F') {a : Addr} (ha : q a.block) (v : Value) : MvS St w F (W.setCell a v) i q F' :=
  I.keepF h (fun k hk => Below.heap_setCell _ _ _ k (fun e => h.off a.block ha (e ▸ hk))) (by simp) (h.fr.setCell (.inr (h.new _ ha).1) v)
theorem Hold.below (I : Hold St) (h : MvS St w F W i q F') (hb : Below W.heap.size W W1) : MvS St w F W1 i q F' :=
  I.keepF h (fun k hk => hb.block k (I.inside _ _ _ h.st k hk)) hb.size (h.fr.then_ (Fr.of_below hb (fun _ => False)) (fun k hk => hk.elim))
theorem Hold.grown (I : Hold St) (h : MvS St w F W i q F') {row : Option Nat} (hg : W.grownBy W1 row) (hr : ∀ k, row = some k → ¬ F' k ∧ w.heap.size ≤ k) : MvS St w F W1 i q F' :=
  I.keepF h (fun k hk => hg.block k (I.inside _ _ _ h.st k hk) (fun e => (hr k e.symm).1 hk)) hg.size (h.fr.then_ (Fr.of_grown (S := fun k => row = some k) hg (fun k e => e)) (fun k hk => .inr (hr k hk).2))
end

def ScSt (base p : Nat) (V : Value) (f : List Int → List Int → Int) (l : List S77) (W : World) (i : Int) (F : Nat → Prop) : Prop :=
  ∃ D ns, F = D.own p ∧ Mem D W base p V f ns (sumO (l.take i.toNat)) (16 + 16 * i.toNat) ∧ kvsL ns = endM f (l.take i.toNat)

section
variable {base p : Nat} {V : Value} {f : List Int → List Int → Int} {l : List S77}
structure ScC (base p : Nat) (V : Value) (f : List Int → List Int → Int) (l : List S77) (W : World) (j : Nat) (F : Nat → Prop) (x : S77) : Prop where
  st : ScSt base p V f l W (j : Int) F
  tk : l.take (j + 1) = l.take j ++ [x]
  b1 : sumO (l.take (j + 1)) ≤ 1099511627776
  b2 : 16 + 16 * (j + 1) ≤ 1099511627776

theorem ScC.sum {W : World} {j : Nat} {F : Nat → Prop} {x : S77} (h : ScC base p V f l W j F x) : sumO (l.take (j + 1)) = sumO (l.take j) + (x.f1.length + x.f2.length) := by rw [h.tk, sumO_snoc]
theorem ScC.end_ {W : World} {j : Nat} {F : Nat → Prop} {x : S77} (h : ScC base p V f l W j F x) : endM f (l.take (j + 1)) = stepL f (endM f (l.take j)) x := by rw [h.tk, endM_snoc]

variable {W : World} {j : Nat} {F : Nat → Prop} {x : S77} {A0 B0 : Option Addr} {ca cb : Nat} {er : Value}

end

end Go.Proofs.YtdkkkikcigjlhaaGreatDoor.Md

namespace Go.Proofs.YtdkkkikcigjlhaaGreatDoor.Md
open Go.RowKit Go.Proofs.YtdkkkikcigjlhaaGreatDoor.Con Go.Proofs.YtdkkkikcigjlhaaGreatDoor.Run Go.Proofs.YtdkkkikcigjlhaaGreatDoorW.PrintWords Go.Proofs.YtdkkkikcigjlhaaGreatDoorW.PrintMore Go.Proofs.YtdkkkikcigjlhaaGreatDoor.Cmp Go.Sort Go.RwLone Go.Proofs.YtdkkkikcigjlhaaGreatDoor.PFnMemMap

theorem copyM_step {P : Program} {ops : Array Oper} {o : Oper} {a : Act} {Q : Exit → Act → World → Prop} {Kc : Act → World → Prop} {w W : World} {g : Nat}
    (hw : Region.wanted o (yielded ops a.tmps) = true) (s x : Operand) (t e : TypeId)
    (ho : o.op = .call { callee := .builtin .append, args := #[s, x], argTypes := #[t, t] })
    (ht : P.underlying t = some (.slice e)) (hinfo : (P.info? e).map (fun i => (i.zero, i.size, i.bytes)) = some (some (.int .u8 0), 1, 1))
    (ys : List Int) (A : Option Addr) (m c : Nat) (hs : a.eval s = .slice (some ⟨g, 0, none⟩) 0 0) (hx : a.eval x = .slice A m c)
    (hg : W.heap[g]? = some (.cells #[] e (0, 0))) (hgb : w.heap.size ≤ g) (HR : Kd.C (Kd.int .u8) w A m ys) (HB : Below w.heap.size w W) (hl : m ≤ 4294967296)
    (h : ∀ A1 c1 w1, w1.ownsRow w.heap.size e 1 (.slice A1 ys.length c1) ys.length (nums .u8 ys) → Below w.heap.size w w1 → W.grownBy w1 (some g) → ((Value.slice A1 ys.length c1).ownBlock = some g ∨ ∃ b, (Value.slice A1 ys.length c1).ownBlock = some b ∧ W.heap.size ≤ b) → Kc (a.put o.dst (.slice A1 ys.length c1)) w1) :
    if Region.wanted o (yielded ops a.tmps) = true then Oper.wp P o a W Kc Q else Kc (a.put o.dst undef) W := by
  refine append_row_step w.heap.size hw s x t e ho ht hinfo _ [] ys A m c hs hx (own_empty hg hgb) (Kd.C_below HR HB) HB HB.size (by simp; omega) ?_
  intro v1 w1 ho1 hb1 hg1 hat1
  rw [List.nil_append] at ho1
  obtain ⟨A1, c1, rfl⟩ := own_slice ho1
  exact h A1 c1 w1 ho1 hb1 hg1 hat1

theorem empty_keptM {W w1 : World} {g1 g2 : Nat} {cs : Array Value} {e : TypeId} (hg : W.grownBy w1 (some g1)) (h : W.heap[g2]? = some (.cells cs e (0, 0))) (hne : g2 ≠ g1) : w1.heap[g2]? = some (.cells cs e (0, 0)) :=
  (hg.block g2 (blk_lt h) (fun e => hne (by injection e))).trans h

theorem row_two {B : Nat} {w1 W2 w2 : World} {g1 n1 g2 : Nat} {v : Value} {l : List Int} {n : Nat} (h : w1.ownsRow B 5 1 v n (nums .u8 l)) (hat : v.ownBlock = some g1 ∨ ∃ b, v.ownBlock = some b ∧ n1 ≤ b) (hW : W2 = w1 ∨ ∃ o, W2 = w1.alloc o) (hg : W2.grownBy w2 (some g2)) (hne : ∀ b, B ≤ b → b < w1.heap.size → (b = g1 ∨ n1 ≤ b) → b ≠ g2) : w2.ownsRow B 5 1 v n (nums .u8 l) := by
  have e : ∀ b, b < w1.heap.size → W2.heap[b]? = w1.heap[b]? ∧ b < W2.heap.size := by
    intro b hb
    rcases hW with rfl | ⟨o, rfl⟩
    · exact ⟨rfl, hb⟩
    · exact ⟨(below_alloc (Below.refl w1.heap.size w1) o).block b hb, by simp; omega⟩
  refine own_move h (fun k hk => ?_)
  have hlt := own_lt h k hk
  have hge := own_base h k hk
  have hor : k = g1 ∨ n1 ≤ k := by
    rcases hat with q | ⟨b, q, hb⟩
    · rw [hk] at q; injection q with q; exact .inl q
    · rw [hk] at q; injection q with q; exact .inr (q ▸ hb)
  refine (hg.block k (e k hlt).2 ?_).trans (e k hlt).1
  intro e2
  injection e2 with e2
  exact hne k hge hlt hor e2

def NotNil (v : Value) : Prop := ∃ ad n c, v = .slice (some ad) n c
def nnK {α : Type} (d : Kd α) : Kd α where
  sz := d.sz
  E := d.E
  K := fun w x cs => d.K w x cs ∧ ∀ v ∈ cs, NotNil v
  M := fun w base ok x cs => d.M w base ok x cs ∧ ∀ v ∈ cs, NotNil v
  K_len := fun h => d.K_len h.1
  K_one := fun h => d.K_one h.1
  K_below := fun hb h => ⟨d.K_below hb h.1, h.2⟩
  K_of_M := fun h => ⟨d.K_of_M h.1, h.2⟩
  M_mono := fun hk h => ⟨d.M_mono hk h.1, h.2⟩
  M_bound := fun h => ⟨d.M_bound h.1, h.2⟩
  M_move := fun hk h => ⟨d.M_move hk h.1, h.2⟩
  M_lower := fun hb h => ⟨d.M_lower hb h.1, h.2⟩
abbrev k44n : Kd S44 := nnK k44
theorem nn_FK {α : Type} {d : Kd α} {W : World} {ok : Nat → Prop} {x : α} {c : List Value} (h : Kd.FK d W ok x c) (hn : ∀ v ∈ c, NotNil v) : Kd.FK (nnK d) W ok x c := fun W' hW => ⟨h W' hW, hn⟩
theorem nn_open {α : Type} {d : Kd α} {W : World} {ok : Nat → Prop} {x : α} {c : List Value} (h : Kd.FK (nnK d) W ok x c) : Kd.FK d W ok x c ∧ ∀ v ∈ c, NotNil v := ⟨fun W' hW => (h W' hW).1, (Kd.FK_now h).2⟩
theorem nn_F {α : Type} {d : Kd α} {W : World} {ok : Nat → Prop} {A : Option Addr} {n : Nat} {l : List α} (h : Kd.F (nnK d) W ok A n l) : Kd.F d W ok A n l := fun W' hW => by
  obtain ⟨h1, h2, h3⟩ := h W' hW
  refine ⟨h1, h2, fun hp => ?_⟩
  obtain ⟨ad, h4, h5⟩ := h3 hp
  refine ⟨ad, h4, fun j p hj => ?_⟩
  obtain ⟨c, hc⟩ := h5 j p hj
  exact ⟨c, hc.1, hc.2.1.1, hc.2.2⟩

theorem own_nn {A : Option Addr} {n c g m : Nat} (h : (Value.slice A n c).ownBlock = some g ∨ ∃ b, (Value.slice A n c).ownBlock = some b ∧ m ≤ b) : NotNil (.slice A n c) := by
  cases A with
  | none =>
    rcases h with h | ⟨b, h, _⟩
    · simp [Value.ownBlock] at h
    · simp [Value.ownBlock] at h
  | some ad => exact ⟨ad, n, c, rfl⟩

def CnTold (l : List S44) (w : World) (e : Ending) (w' : World) : Prop :=
  ∃ A c, e = .returned (.slice A l.length c) ∧ l.length ≤ c ∧ Kd.F k44n w' (fun k => w.heap.size ≤ k ∧ k < w'.heap.size) A l.length l ∧ Below w.heap.size w w'

theorem info_KVn : (Tryz.prog.info? 44).map (fun i => (i.zero, i.size, i.bytes)) = some (some (.agg #[.slice none 0 0, .slice none 0 0]), k44n.sz, 48) := by kernel_rfl

set_option maxHeartbeats 12800000 in
set_option maxRecDepth 100000 in
theorem copied_nn {w : World} {ok : Nat → Prop} {A : Option Addr} {n c : Nat} {l : List S44} (hn : l.length = n) (hA : Kd.F k44 w ok A n l) (hl : n ≤ 4294967296) (hx : ∀ x ∈ l, x.f0.length ≤ 4294967296 ∧ x.f1.length ≤ 4294967296) :
    Calls Tryz.prog 60 #[.slice A n c] w fun e w' => CnTold l w e w' := by
  have HA := Lib.hid (And.intro hA (And.intro hl hx))
  have HN := Lib.hid hn
  clear hA hl hx hn
  go_enter Tryz.func60, Tryz.ntmps60
  go_wp2
  go_loopg [2, 7] n (fun k v2 v7 w' => ∃ j : Nat, v7 = .int .i64 (j : Int) ∧ Hid (j ≤ n ∧ n ≤ j + k) ∧ Hid (Kd.N k44n 44 w' w.heap.size (fun k => w.heap.size ≤ k) v2 (l.take j)) ∧ Hid (Below w.heap.size w w'))
  case atStart => exact ⟨0, rfl, Lib.hid ⟨Nat.zero_le _, by omega⟩, Lib.hid (Kd.N_nil _ _ _ _ _), Lib.hid (Below.refl _ _)⟩
  case round =>
    obtain ⟨j, rfl, HJ, HO, HBL⟩ := hrel
    by_cases hj : j < n
    · obtain ⟨ad, K1, k1, V1, k2, rfl, r0, r1, hKF, hVF, hk1, hk2⟩ := kv_at (Kd.F_below HA.out.1 HBL.out) hj rfl
      have hmem : l.getD j (⟨[], []⟩ : S44) ∈ l := by
        rw [List.getD_eq_getElem?_getD, List.getElem?_eq_getElem (by rw [HN.out]; exact hj)]
        exact List.getElem_mem _
      have HX := Lib.hid (HA.out.2.2 _ hmem)
      have HTK := Lib.hid (take_next (l := l) (i := j) (by rw [HN.out]; exact hj) (⟨[], []⟩ : S44))
      generalize l.getD j (⟨[], []⟩ : S44) = x at *
      have HKV := Lib.hid (And.intro hKF (And.intro hVF (And.intro hk1 hk2)))
      have z0 : decide ((j : Int) < (n : Int)) = true := decide_eq_true (by omega)
      have z2 : (j : Int) < (n : Int) := by omega
      have HJL := Lib.hid (And.intro hj HJ.out.2)
      have w1' : wrap64 ((j : Int) + 1) = (j : Int) + 1 := wz (by omega) (by have := HA.out.2.1; omega)
      clear hKF hVF hk1 hk2 hmem
      go_upto_block 1 with (fail)
      go_cut [2] (fun v2 wd => Hid (Kd.N k44n 44 wd w.heap.size (fun k => w.heap.size ≤ k) v2 (l.take j ++ [x])) ∧ Hid (Below w.heap.size w wd))
      case first =>
        rename_i J K hJ hK
        go_upto_region 4 with (fail)
        have hbx := blk_new wr (.cells #[.slice K1 x.f0.length k1, .slice V1 x.f1.length k2] 44)
        have hbl := below_alloc (Below.refl wr.heap.size wr) (.cells #[.slice K1 x.f0.length k1, .slice V1 x.f1.length k2] 44)
        have HO2 := Lib.hid (Kd.N_below HO.out hbl)
        have HB2 := Lib.hid (HBL.out.trans (hbl.mono HBL.out.size))
        have HKC := Lib.hid (And.intro (Kd.F_now (Kd.F_below HKV.out.1 hbl)) (Kd.F_now (Kd.F_below HKV.out.2.1 hbl)))
        clear hbl r0 r1
        generalize wr.alloc (.cells #[.slice K1 x.f0.length k1, .slice V1 x.f1.length k2] 44) = w2 at *
        have HANS := Lib.hid hbx
        have HLT := Lib.hid (blk_lt hbx)
        clear z0 z2 w1' hj
        have l0 : w2.drew.cell? ⟨wr.heap.size, 0, none⟩ = some (.slice K1 x.f0.length k1) := (blk_cell hbx 0).trans rfl
        have l1 : w2.drew.cell? ⟨wr.heap.size, 1, none⟩ = some (.slice V1 x.f1.length k2) := (blk_cell hbx 1).trans rfl
        have hq1 := below_alloc (Below.refl w2.heap.size w2) (.cells #[] 5)
        have hq2 := below_alloc (Below.refl (w2.alloc (.cells #[] 5)).heap.size (w2.alloc (.cells #[] 5))) (.cells #[] 5)
        have E1 : Hid ((w2.alloc (.cells #[] 5)).drew.heap[w2.heap.size]? = some (.cells #[] 5 (0, 0))) := blk_new w2 _
        have E2 : Hid (((w2.alloc (.cells #[] 5)).alloc (.cells #[] 5)).drew.heap[w2.heap.size]? = some (.cells #[] 5 (0, 0))) := (hq2.block w2.heap.size (by simp)).trans (blk_new w2 _)
        have E3 : Hid (((w2.alloc (.cells #[] 5)).alloc (.cells #[] 5)).drew.heap[w2.heap.size + 1]? = some (.cells #[] 5 (0, 0))) := by
          have := blk_new (w2.alloc (.cells #[] 5)) (.cells #[] 5)
          rw [World.size_alloc] at this
          exact this
        have B1 : Hid (Below w2.heap.size w2 (w2.alloc (.cells #[] 5)).drew) := Lib.hid hq1.drew
        have B2 : Hid (Below w2.heap.size w2 ((w2.alloc (.cells #[] 5)).alloc (.cells #[] 5)).drew) := Lib.hid (below_then hq1 hq1.size hq2).drew
        have N1 := Lib.hid (show w2.heap.size ≠ w2.heap.size + 1 by omega)
        have N2 := Lib.hid (show w2.heap.size + 1 ≠ w2.heap.size by omega)
        have ha1 := (hq1.block _ HLT.out).trans HANS.out
        have ha2 := (hq2.block _ (blk_lt ha1)).trans ha1
        have l2 : (w2.alloc (.cells #[] 5)).drew.cell? ⟨wr.heap.size, 0, none⟩ = some (.slice K1 x.f0.length k1) := (blk_cell ha1 0).trans rfl
        have l3 : (w2.alloc (.cells #[] 5)).drew.cell? ⟨wr.heap.size, 1, none⟩ = some (.slice V1 x.f1.length k2) := (blk_cell ha1 1).trans rfl
        have l4 : ((w2.alloc (.cells #[] 5)).alloc (.cells #[] 5)).drew.cell? ⟨wr.heap.size, 0, none⟩ = some (.slice K1 x.f0.length k1) := (blk_cell ha2 0).trans rfl
        have l5 : ((w2.alloc (.cells #[] 5)).alloc (.cells #[] 5)).drew.cell? ⟨wr.heap.size, 1, none⟩ = some (.slice V1 x.f1.length k2) := (blk_cell ha2 1).trans rfl
        clear hq1 hq2 hbx ha1 ha2
        go_region_law
          (first
          | (refine Kd.N_append_step k44n w.heap.size rfl (.tmp 11) (.tmp 21) 38 44 (.agg #[.slice none 0 0, .slice none 0 0]) 48 rfl Tryz.underlying38 info_KVn rfl (by decide) (by decide) _ _ x _ (fun k => w.heap.size ≤ k) (fun k => w2.heap.size ≤ k ∧ k < w5.heap.size) rfl rfl (nn_FK (k44_mkF w5 _ x (own_cap ho4') (own_F ho4' (fun k hk => ⟨own_base ho4' k hk, own_lt ho4' k hk⟩)) (own_cap ho5) (own_F ho5 (fun k hk => ⟨own_base ho5 k hk, own_lt ho5 k hk⟩))) (fun v hv => by
              simp only [List.mem_cons, List.not_mem_nil, or_false] at hv
              rcases hv with rfl | rfl
              · exact own_nn hat4
              · exact own_nn hat5)) (fun k hk => ⟨Nat.le_trans HB2.out.size hk.1, fun e => by have := Kd.N_lt HO2.out k e.symm; have := hk.1; omega⟩) (fun k hk => Nat.le_trans HB2.out.size (Nat.le_trans hb5.size hk)) (Kd.N_below HO2.out hb5) (HB2.out.trans (hb5.mono HB2.out.size)) (Nat.le_trans HB2.out.size hb5.size) (by have := HJL.out.1; have := HA.out.2.1; rw [List.length_take]; omega) ?_; intro v6 w6 hn6 hb6 hg6 hat6)
          | (refine copyM_step rfl (.tmp 16) (.tmp 18) 25 5 rfl Tryz.underlying25 info_u8 x.f1 _ _ _ rfl rfl (by first | exact empty_keptM hg1 E2.out N1.out | exact empty_keptM hg1 E3.out N2.out | exact blk_new w4 _) (by first | exact hb4.size | simp) HKC.out.2 (by first | exact hb4 | exact below_alloc' hb4 _) HX.out.2 ?_; intro A5 c5 w5 ho5 hb5 hg5 hat5; have ho4' := row_two (W2 := _) (w2 := w5) ho4 hat4 (by first | exact Or.inl rfl | exact Or.inr ⟨_, rfl⟩) hg5 (by intro b q1 q2 q3; simp at q1 q2 q3 ⊢; omega))
          | (refine copyM_step rfl (.tmp 12) (.tmp 14) 25 5 rfl Tryz.underlying25 info_u8 x.f0 _ _ _ rfl rfl (by first | exact E1.out | exact E2.out | exact E3.out) (by simp) HKC.out.1 (by first | exact B1.out | exact B2.out) HX.out.1 ?_; intro A4 c4 w4 ho4 hb4 hg1 hat4; have ha4 := (hb4.block _ HLT.out).trans HANS.out; have k0 : w4.cell? ⟨wr.heap.size, 0, none⟩ = some (.slice K1 x.f0.length k1) := (blk_cell ha4 0).trans rfl; have k1' : w4.cell? ⟨wr.heap.size, 1, none⟩ = some (.slice V1 x.f1.length k2) := (blk_cell ha4 1).trans rfl; have ha4b := ((below_alloc (Below.refl w4.heap.size w4) (.cells #[] 5)).block _ (blk_lt ha4)).trans ha4; have k2' : (w4.alloc (.cells #[] 5)).cell? ⟨wr.heap.size, 1, none⟩ = some (.slice V1 x.f1.length k2) := (blk_cell ha4b 1).trans rfl))
        all_goals (
          simp only [Exit.then, Exit.inBlock]
          refine hK _ _ (Met.intro (hJ _ _ ?_))
          repeat apply Exists.intro
          refine ⟨?_, rfl⟩
          exact ⟨Lib.hid hn6, Lib.hid hb6⟩)
      case rest =>
        obtain ⟨HN7, HB7⟩ := hcut
        go_wp2
        go_roundg (gk - 1)
        case measure => exact round_less HJL.out.1 HJL.out.2
        case rel => exact ⟨j + 1, (by first | rfl | exact congrArg _ w1'), Lib.hid (round_next HJL.out.1 HJL.out.2), Lib.hid (by rw [HTK.out]; exact HN7.out), HB7⟩
    · have z0 : decide ((j : Int) < (n : Int)) = false := decide_eq_false (by omega)
      have z2 : ¬ (j : Int) < (n : Int) := by omega
      have ht : l.take j = l := by rw [show j = n by have := HJ.out.1; omega, ← HN.out, List.take_length]
      rw [ht] at HO
      obtain ⟨A9, c9, rfl⟩ := Kd.N_slice HO.out
      clear ht
      go_wp2
      go_ret
      exact ⟨A9, c9, rfl, (Kd.N_reads' HO.out).2.1, Kd.F_bound (Kd.N_F HO.out), HBL.out⟩

end Go.Proofs.YtdkkkikcigjlhaaGreatDoor.Md
