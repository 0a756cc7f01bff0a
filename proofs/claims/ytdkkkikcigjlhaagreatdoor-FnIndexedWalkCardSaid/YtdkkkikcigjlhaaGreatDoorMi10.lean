/- The memory table: Put of a key that is there. The memory table: Put of a key that is there. -/
import Derived.Test.YtdkkkikcigjlhaaGreatDoorMi09
set_option linter.unusedVariables false
set_option linter.unusedSimpArgs false
namespace Go.Proofs.YtdkkkikcigjlhaaGreatDoor.Md
open Go.RowKit Go.Proofs.YtdkkkikcigjlhaaGreatDoor.Con Go.Proofs.YtdkkkikcigjlhaaGreatDoor.Run Go.Proofs.YtdkkkikcigjlhaaGreatDoorW.PrintWords Go.Proofs.YtdkkkikcigjlhaaGreatDoorW.PrintMore Go.Proofs.YtdkkkikcigjlhaaGreatDoor.Cmp Go.Sort Go.RwLone

def foot (p gr : Nat) (vk vn : Value) (k : Nat) : Prop := k = p ∨ k = gr ∨ some k = vk.ownBlock ∨ some k = vn.ownBlock

theorem Tab.kvNe {W : World} {base p : Nat} {cs : Array Value} {vk vn : Value} {kv nd : List Int} (h : Tab W base p cs vk vn kv nd) : some p ≠ vk.ownBlock := own_ne h.kv h.cell (by decide)
theorem Tab.ndNe {W : World} {base p : Nat} {cs : Array Value} {vk vn : Value} {kv nd : List Int} (h : Tab W base p cs vk vn kv nd) : some p ≠ vn.ownBlock := own_ne h.nd h.cell (by decide)
theorem Tab.room {W : World} {base p : Nat} {cs : Array Value} {vk vn : Value} {kv nd : List Int} (h : Tab W base p cs vk vn kv nd) : base ≤ W.heap.size := Nat.le_trans h.at_ (Nat.le_of_lt (blk_lt h.cell))

theorem Tab.grewKv {W w1 : World} {base p : Nat} {cs : Array Value} {vk vn v1 : Value} {kv nd l : List Int} (h : Tab W base p cs vk vn kv nd) (ho : w1.ownsRow base 5 1 v1 l.length (nums .u8 l)) (hg : W.grownBy w1 vk.ownBlock) :
    w1.heap[p]? = some (.cells cs 188 (0, 0)) ∧ Tab (w1.setCell ⟨p, 8, none⟩ v1) base p (cs.setIfInBounds 8 v1) v1 vn l nd := by
  have hc := (hg.block p (blk_lt h.cell) h.kvNe).trans h.cell
  have hn : w1.ownsRow base 3 1 vn nd.length (nums .i64 nd) := own_other h.nd hg (own_type_ne h.nd h.kv (by decide))
  exact ⟨hc, blk_set hc 8 v1, own_setCell (p := ⟨p, 8, none⟩) ho (own_ne ho hc (by decide)) v1, own_setCell (p := ⟨p, 8, none⟩) hn (own_ne hn hc (by decide)) v1, h.at_⟩

theorem Tab.grewNd {W w1 : World} {base p : Nat} {cs : Array Value} {vk vn v1 : Value} {kv nd l : List Int} (h : Tab W base p cs vk vn kv nd) (ho : w1.ownsRow base 3 1 v1 l.length (nums .i64 l)) (hg : W.grownBy w1 vn.ownBlock) :
    w1.heap[p]? = some (.cells cs 188 (0, 0)) ∧ Tab (w1.setCell ⟨p, 9, none⟩ v1) base p (cs.setIfInBounds 9 v1) vk v1 kv l := by
  have hc := (hg.block p (blk_lt h.cell) h.ndNe).trans h.cell
  have hk : w1.ownsRow base 5 1 vk kv.length (nums .u8 kv) := own_other h.kv hg (own_type_ne h.kv h.nd (by decide))
  exact ⟨hc, blk_set hc 9 v1, own_setCell (p := ⟨p, 9, none⟩) hk (own_ne hk hc (by decide)) v1, own_setCell (p := ⟨p, 9, none⟩) ho (own_ne ho hc (by decide)) v1, h.at_⟩

theorem foot_kv {w W : World} {p gr : Nat} {vk vn vk0 vn0 v1 : Value} (h : ∀ k, foot p gr vk vn k → foot p gr vk0 vn0 k ∨ w.heap.size ≤ k) (hat : v1.ownBlock = vk.ownBlock ∨ ∃ b, v1.ownBlock = some b ∧ W.heap.size ≤ b) (hs : w.heap.size ≤ W.heap.size) :
    ∀ k, foot p gr v1 vn k → foot p gr vk0 vn0 k ∨ w.heap.size ≤ k := by
  intro k hk
  rcases hk with q | q | q | q
  · exact h k (.inl q)
  · exact h k (.inr (.inl q))
  · rcases hat with e | ⟨b, e, hb⟩
    · exact h k (.inr (.inr (.inl (q.trans e))))
    · rw [e] at q
      injection q with q
      exact .inr (by omega)
  · exact h k (.inr (.inr (.inr q)))

theorem foot_nd {w W : World} {p gr : Nat} {vk vn vk0 vn0 v1 : Value} (h : ∀ k, foot p gr vk vn k → foot p gr vk0 vn0 k ∨ w.heap.size ≤ k) (hat : v1.ownBlock = vn.ownBlock ∨ ∃ b, v1.ownBlock = some b ∧ W.heap.size ≤ b) (hs : w.heap.size ≤ W.heap.size) :
    ∀ k, foot p gr vk v1 k → foot p gr vk0 vn0 k ∨ w.heap.size ≤ k := by
  intro k hk
  rcases hk with q | q | q | q
  · exact h k (.inl q)
  · exact h k (.inr (.inl q))
  · exact h k (.inr (.inr (.inl q)))
  · rcases hat with e | ⟨b, e, hb⟩
    · exact h k (.inr (.inr (.inr (q.trans e))))
    · rw [e] at q
      injection q with q
      exact .inr (by omega)

def PutLeft (w : World) (base p gr : Nat) (vk vn V : Value) (r : Nat) (kv nd key val : List Int) (n sz : Int) (ns : List Node) (w' : World) : Prop :=
  Fr w w' (foot p gr vk vn) ∧ ∃ cs' q' Kx' ck' N' c' kv' nd' mh', Tab w' base p cs' (.slice Kx' kv'.length ck') (.slice N' nd'.length c') kv' nd' ∧ Cs cs' V r 0 0 (.slice Kx' kv'.length ck') (.slice N' nd'.length c') q' ((mh' : Nat) : Int) n sz ∧ Skip nd' kv' mh' ns ∧ Rnd w' r gr ∧
    kv'.length ≤ kv.length + key.length + val.length ∧ nd'.length ≤ nd.length + 16 ∧ kv'.length ≤ ck' ∧ ∀ k, foot p gr (.slice Kx' kv'.length ck') (.slice N' nd'.length c') k → foot p gr vk vn k ∨ w.heap.size ≤ k

theorem Rnd.kept {W W1 : World} {r gr : Nat} {row : Option Nat} (h : Rnd W r gr) (hg : W.grownBy W1 row) (h1 : some r ≠ row) (h2 : some gr ≠ row) : Rnd W1 r gr := by
  obtain ⟨a, ⟨hi, lo, b⟩, c⟩ := h
  exact ⟨(hg.block r (blk_lt a) h1).trans a, ⟨hi, lo, (hg.block gr (blk_lt b) h2).trans b⟩, c⟩
theorem Rnd.set {W : World} {r gr : Nat} (h : Rnd W r gr) {q i : Nat} (h1 : r ≠ q) (h2 : gr ≠ q) (v : Value) : Rnd (W.setCell ⟨q, i, none⟩ v) r gr :=
  h.kept (grown_set W q i v) (fun e => h1 (by injection e)) (fun e => h2 (by injection e))

structure Away (p r gr : Nat) (vk vn : Value) : Prop where
  rp : r ≠ p
  gp : gr ≠ p
  rk : some r ≠ vk.ownBlock
  gk : some gr ≠ vk.ownBlock
  rn : some r ≠ vn.ownBlock
  gn : some gr ≠ vn.ownBlock

theorem blk_type {W : World} {a b : Nat} {cs ds : Array Value} {t u : TypeId} (h : W.heap[a]? = some (.cells cs t (0, 0))) (g : W.heap[b]? = some (.cells ds u (0, 0))) (hne : t ≠ u) : a ≠ b := by
  intro e
  subst e
  rw [h] at g
  injection g with g
  injection g with _ g _
  exact hne g

theorem Tab.away {W : World} {base p r gr : Nat} {cs : Array Value} {vk vn : Value} {kv nd : List Int} (h : Tab W base p cs vk vn kv nd) (hr : Rnd W r gr) : Away p r gr vk vn := by
  obtain ⟨a, ⟨hi, lo, b⟩, c⟩ := hr
  exact ⟨blk_type a h.cell (by decide), blk_type b h.cell (by decide), own_ne h.kv a (by decide), own_ne h.kv b (by decide), own_ne h.nd a (by decide), own_ne h.nd b (by decide)⟩

structure PutSt (w : World) (base p gr : Nat) (vk0 vn0 V : Value) (r : Nat) (mh n sz : Int) (q : Nat → Int) (W : World) (cs : Array Value) (vk vn : Value) (kv nd : List Int) : Prop where
  T : Tab W base p cs vk vn kv nd
  C : Cs cs V r 1 (-1073741824) vk vn q mh n sz
  R : Rnd W r gr
  F : Fr w W (foot p gr vk0 vn0)
  Q : ∀ k, foot p gr vk vn k → foot p gr vk0 vn0 k ∨ w.heap.size ≤ k

section
variable {w W w1 : World} {base p gr r : Nat} {vk0 vn0 V vk vn v1 : Value} {mh n sz : Int} {q : Nat → Int} {cs : Array Value} {kv nd l : List Int}

theorem PutSt.cellP (h : PutSt w base p gr vk0 vn0 V r mh n sz q W cs vk vn kv nd) (i : Nat) {u : Value} (hu : cs[i]? = some u) : W.cell? ⟨p, i, none⟩ = some u ∧ W.frozen? ⟨p, i, none⟩ = false := ⟨(blk_cell h.T.cell i).trans hu, blk_frozen h.T.cell i⟩

theorem PutSt.below (h : PutSt w base p gr vk0 vn0 V r mh n sz q W cs vk vn kv nd) (hb : Below W.heap.size W w1) : PutSt w base p gr vk0 vn0 V r mh n sz q w1 cs vk vn kv nd :=
  ⟨h.T.below hb, h.C, h.R.kept (row := none) (grown_of_below hb none) (by simp) (by simp), h.F.then_ (Fr.of_below hb (fun _ => False)) (fun k hk => hk.elim), h.Q⟩

theorem PutSt.own (h : PutSt w base p gr vk0 vn0 V r mh n sz q W cs vk vn kv nd) (i : Nat) (u : Value) : Tab (W.setCell ⟨p, i, none⟩ u) base p (cs.setIfInBounds i u) vk vn kv nd ∧ Rnd (W.setCell ⟨p, i, none⟩ u) r gr ∧ Fr w (W.setCell ⟨p, i, none⟩ u) (foot p gr vk0 vn0) :=
  have ha := h.T.away h.R
  ⟨h.T.set i u, h.R.set ha.rp ha.gp u, h.F.setCell (p := ⟨p, i, none⟩) (.inl (.inl rfl)) u⟩

theorem PutSt.s22 (h : PutSt w base p gr vk0 vn0 V r mh n sz q W cs vk vn kv nd) (v : Int) : PutSt w base p gr vk0 vn0 V r v n sz q (W.setCell ⟨p, 22, none⟩ (.int .i64 v)) (cs.setIfInBounds 22 (.int .i64 v)) vk vn kv nd :=
  have ho := h.own 22 (.int .i64 v)
  ⟨ho.1, h.C.set22 v, ho.2.1, ho.2.2, h.Q⟩
theorem PutSt.s23 (h : PutSt w base p gr vk0 vn0 V r mh n sz q W cs vk vn kv nd) (v : Int) : PutSt w base p gr vk0 vn0 V r mh v sz q (W.setCell ⟨p, 23, none⟩ (.int .i64 v)) (cs.setIfInBounds 23 (.int .i64 v)) vk vn kv nd :=
  have ho := h.own 23 (.int .i64 v)
  ⟨ho.1, h.C.set23 v, ho.2.1, ho.2.2, h.Q⟩
theorem PutSt.s24 (h : PutSt w base p gr vk0 vn0 V r mh n sz q W cs vk vn kv nd) (v : Int) : PutSt w base p gr vk0 vn0 V r mh n v q (W.setCell ⟨p, 24, none⟩ (.int .i64 v)) (cs.setIfInBounds 24 (.int .i64 v)) vk vn kv nd :=
  have ho := h.own 24 (.int .i64 v)
  ⟨ho.1, h.C.set24 v, ho.2.1, ho.2.2, h.Q⟩
theorem PutSt.sq (h : PutSt w base p gr vk0 vn0 V r mh n sz q W cs vk vn kv nd) {i : Nat} (hi : i < 12) (v : Int) : PutSt w base p gr vk0 vn0 V r mh n sz (fun j => if j = i then v else q j) (W.setCell ⟨p, 10 + i, none⟩ (.int .i64 v)) (cs.setIfInBounds (10 + i) (.int .i64 v)) vk vn kv nd :=
  have ho := h.own (10 + i) (.int .i64 v)
  ⟨ho.1, h.C.setq hi v, ho.2.1, ho.2.2, h.Q⟩

theorem PutSt.kvs (h : PutSt w base p gr vk0 vn0 V r mh n sz q W cs vk vn kv nd) (ho : w1.ownsRow base 5 1 v1 l.length (nums .u8 l)) (hg : W.grownBy w1 vk.ownBlock) (hat : v1.ownBlock = vk.ownBlock ∨ ∃ b, v1.ownBlock = some b ∧ W.heap.size ≤ b) :
    PutSt w base p gr vk0 vn0 V r mh n sz q (w1.setCell ⟨p, 8, none⟩ v1) (cs.setIfInBounds 8 v1) v1 vn l nd :=
  have ha := h.T.away h.R
  ⟨(h.T.grewKv ho hg).2, h.C.set8 v1, (h.R.kept hg ha.rk ha.gk).set ha.rp ha.gp v1,
    (h.F.then_ (Fr.of_grown (S := fun k => some k = vk.ownBlock) hg (fun k hk => hk.symm)) (fun k hk => h.Q k (.inr (.inr (.inl hk))))).setCell (p := ⟨p, 8, none⟩) (.inl (.inl rfl)) v1, foot_kv h.Q hat h.F.size⟩

theorem PutSt.nds (h : PutSt w base p gr vk0 vn0 V r mh n sz q W cs vk vn kv nd) (ho : w1.ownsRow base 3 1 v1 l.length (nums .i64 l)) (hg : W.grownBy w1 vn.ownBlock) (hat : v1.ownBlock = vn.ownBlock ∨ ∃ b, v1.ownBlock = some b ∧ W.heap.size ≤ b) :
    PutSt w base p gr vk0 vn0 V r mh n sz q (w1.setCell ⟨p, 9, none⟩ v1) (cs.setIfInBounds 9 v1) vk v1 kv l :=
  have ha := h.T.away h.R
  ⟨(h.T.grewNd ho hg).2, h.C.set9 v1, (h.R.kept hg ha.rn ha.gn).set ha.rp ha.gp v1,
    (h.F.then_ (Fr.of_grown (S := fun k => some k = vn.ownBlock) hg (fun k hk => hk.symm)) (fun k hk => h.Q k (.inr (.inr (.inr hk))))).setCell (p := ⟨p, 9, none⟩) (.inl (.inl rfl)) v1, foot_nd h.Q hat h.F.size⟩

theorem PutSt.num {g c : Nat} (h : PutSt w base p gr vk0 vn0 V r mh n sz q W cs vk (.slice (some ⟨g, 0, none⟩) nd.length c) kv nd) (i : Nat) (v : Int) :
    PutSt w base p gr vk0 vn0 V r mh n sz q (W.setCell ⟨g, i, none⟩ (.int .i64 v)) cs vk (.slice (some ⟨g, 0, none⟩) nd.length c) kv (nd.set i v) :=
  have ha := h.T.away h.R
  ⟨h.T.setNd i v, h.C, h.R.set (fun e => ha.rn (by rw [e]; rfl)) (fun e => ha.gn (by rw [e]; rfl)) _, h.F.setCell (p := ⟨g, i, none⟩) (h.Q g (.inr (.inr (.inr rfl)))) _, h.Q⟩

theorem PutSt.num' {g c m : Nat} (hm : m = nd.length) (h : PutSt w base p gr vk0 vn0 V r mh n sz q W cs vk (.slice (some ⟨g, 0, none⟩) m c) kv nd) (i : Nat) (v : Int) :
    PutSt w base p gr vk0 vn0 V r mh n sz q (W.setCell ⟨g, i, none⟩ (.int .i64 v)) cs vk (.slice (some ⟨g, 0, none⟩) m c) kv (nd.set i v) := by
  subst hm
  exact h.num i v

theorem PutSt.read {g c m : Nat} (hm : m = nd.length) (h : PutSt w base p gr vk0 vn0 V r mh n sz q W cs vk (.slice (some ⟨g, 0, none⟩) m c) kv nd) {i : Nat} (hi : i < m) :
    W.cell? ⟨g, i, none⟩ = some (.int .i64 (G nd i)) ∧ W.frozen? ⟨g, i, none⟩ = false := by
  subst hm
  exact h.T.numG hi

theorem PutSt.left {kv0 nd0 key val : List Int} {Kx N : Option Addr} {ck c mhn : Nat} {ns : List Node} (h : PutSt w base p gr vk0 vn0 V r (mhn : Int) n sz q W cs (.slice Kx kv.length ck) (.slice N nd.length c) kv nd) (hS : Skip nd kv mhn ns) (h1 : kv.length ≤ kv0.length + key.length + val.length) (h2 : nd.length ≤ nd0.length + 16) (h3 : kv.length ≤ ck) :
    PutLeft w base p gr vk0 vn0 V r kv0 nd0 key val n sz ns ((W.setCell ⟨p, 6, none⟩ (.int .i32 0)).setCell ⟨p, 2, none⟩ (.int .i32 0)) :=
  have ha := h.T.away h.R
  ⟨(h.F.setCell (p := ⟨p, 6, none⟩) (.inl (.inl rfl)) _).setCell (p := ⟨p, 2, none⟩) (.inl (.inl rfl)) _, _, _, Kx, ck, N, c, kv, nd, mhn, (h.T.set 6 _).set 2 _, (h.C.set6 0).set2 0, hS, (h.R.set ha.rp ha.gp _).set ha.rp ha.gp _, h1, h2, h3, h.Q⟩

theorem PutSt.left' {kv0 nd0 key val : List Int} {Kx N : Option Addr} {ck c mhn m : Nat} {ns : List Node} (hm : m = nd.length) (h : PutSt w base p gr vk0 vn0 V r (mhn : Int) n sz q W cs (.slice Kx kv.length ck) (.slice N m c) kv nd) (hS : Skip nd kv mhn ns) (h1 : kv.length ≤ kv0.length + key.length + val.length) (h2 : nd.length ≤ nd0.length + 16) (h3 : kv.length ≤ ck) :
    PutLeft w base p gr vk0 vn0 V r kv0 nd0 key val n sz ns ((W.setCell ⟨p, 6, none⟩ (.int .i32 0)).setCell ⟨p, 2, none⟩ (.int .i32 0)) := by
  subst hm
  exact h.left hS h1 h2 h3
end

theorem own_cap {w : World} {base n m c : Nat} {e : TypeId} {A : Option Addr} {xs : List Value} (h : w.ownsRow base e 1 (.slice A n c) m xs) : n ≤ c := by
  rcases h.2 with ⟨hv, h0⟩ | ⟨g, cap, cur, hv, hb, hh, h1, _⟩
  · injection hv with _ e2 e3
    omega
  · injection hv with _ e2 e3
    omega

end Go.Proofs.YtdkkkikcigjlhaaGreatDoor.Md

namespace Go.Proofs.YtdkkkikcigjlhaaGreatDoor.Md
open Go.RowKit Go.Proofs.YtdkkkikcigjlhaaGreatDoor.Con Go.Proofs.YtdkkkikcigjlhaaGreatDoor.Run Go.Proofs.YtdkkkikcigjlhaaGreatDoorW.PrintWords Go.Proofs.YtdkkkikcigjlhaaGreatDoorW.PrintMore Go.Proofs.YtdkkkikcigjlhaaGreatDoor.Cmp Go.Sort Go.RwLone

theorem two_len {a b : Nat} (h1 : a ≤ 1099511627776) (h2 : b ≤ 1099511627776) : (a + b) * 1 ≤ 140737488355328 := by omega

theorem three_len {kv key kv3 val : List Int} (h : kv ++ key = kv3) (h1 : kv.length ≤ 1099511627776) (h2 : key.length ≤ 1099511627776) (h3 : val.length ≤ 1099511627776) : (kv3.length + val.length) * 1 ≤ 140737488355328 := by rw [← h, List.length_append]; omega

theorem val_len {nd kv : List Int} {mh : Nat} {x : Node} (h : NodeOk nd kv mh x) (hk : kv.length ≤ 1099511627776) : x.val.length ≤ 1099511627776 := by
  obtain ⟨o, _, h2, _⟩ := h.cell
  omega

theorem put_sums {sz : Int} {vl xl : Nat} (hv : vl ≤ 1099511627776) (hx : xl ≤ 1099511627776) (hs : 0 ≤ sz ∧ sz ≤ 1099511627776) :
    wrap64 ((vl : Int) - (xl : Int)) = (vl : Int) - (xl : Int) ∧ wrap64 (sz + ((vl : Int) - (xl : Int))) = sz + ((vl : Int) - (xl : Int)) := by
  unfold wrap64
  omega

set_option maxHeartbeats 3200000 in
set_option maxRecDepth 100000 in
theorem PutHit_calls {w : World} {base p r gr mh c ck ca cb : Nat} {cs : Array Value} {V : Value} {N Kx A0 B0 : Option Addr} {n sz : Int} {q : Nat → Int} {kv nd key val : List Int} {ns P R : List Node} {f : List Int → List Int → Int}
    (hT : Tab w base p cs (.slice Kx kv.length ck) (.slice N nd.length c) kv nd) (hC : Cs cs V r 0 0 (.slice Kx kv.length ck) (.slice N nd.length c) q (mh : Int) n sz) (hS : Skip nd kv mh ns) (hl : nd.length ≤ 1099511627776) (hkl : kv.length ≤ 1099511627776) (hck : kv.length ≤ ck)
    (hV : Cmpr V f) (hns : ns = P ++ R) (hP : ∀ x ∈ P, f x.key key < 0) (hR : ∀ x ∈ R, 0 ≤ f x.key key) (hs : Sorted f R) (hbk : Byt key) (hbv : ∀ x ∈ ns, Byt x.key)
    (hA : Kd.C (Kd.int .u8) w A0 key.length key) (hB : Kd.C (Kd.int .u8) w B0 val.length val) (hneA : 0 < key.length → ∀ a, A0 = some a → ¬ foot p gr (.slice Kx kv.length ck) (.slice N nd.length c) a.block) (hneB : 0 < val.length → ∀ a, B0 = some a → ¬ foot p gr (.slice Kx kv.length ck) (.slice N nd.length c) a.block)
    (hr : Rnd w r gr) (hkey : key.length ≤ 1099511627776) (hval : val.length ≤ 1099511627776) (hsz : 0 ≤ sz ∧ sz ≤ 1099511627776) (hhit : ∃ x R', R = x :: R' ∧ f x.key key = 0) :
    Calls Tryz.prog 66 #[.pointer (some ⟨p, 0, none⟩), .slice A0 key.length ca, .slice B0 val.length cb] w fun e w' => e = .returned .nilIface ∧ ∃ x R', R = x :: R' ∧ f x.key key = 0 ∧ PutLeft w base p gr (.slice Kx kv.length ck) (.slice N nd.length c) V r kv nd key val n (sz + ((val.length : Int) - (x.val.length : Int))) (P ++ { x with val := val } :: R') w' := by
  obtain ⟨g, rfl, hgp, hbg, hgl, hnc⟩ := hT.own (by have := hS.len; omega)
  have c2 : w.cell? ⟨p, 2, none⟩ = some (.int .i32 0) := (blk_cell hT.cell 2).trans hC.c2
  have c4 : w.cell? ⟨p, 4, none⟩ = some (.int .u32 0) := (blk_cell hT.cell 4).trans hC.c4
  have c5 : w.cell? ⟨p, 5, none⟩ = some (.int .u32 0) := (blk_cell hT.cell 5).trans hC.c5
  have c6 : w.cell? ⟨p, 6, none⟩ = some (.int .i32 0) := (blk_cell hT.cell 6).trans hC.c6
  have f2 := blk_frozen hT.cell 2
  have f6 := blk_frozen hT.cell 6
  have hT1 := (hT.set 2 (.int .i32 1)).set 6 (.int .i32 (-1073741824))
  have hC1 := (hC.set2 1).set6 (-1073741824)
  have hg1 := (grown_set w p 2 (.int .i32 1)).trans (grown_set (w.setCell ⟨p, 2, none⟩ (.int .i32 1)) p 6 (.int .i32 (-1073741824)))
  have hpA : 0 < key.length → ∀ a, A0 = some a → a.block ≠ p := fun hk a ha e => hneA hk a ha (.inl e)
  have HGE := Lib.hid (GE_calls (ca := ca) hT1 hC1 hS hl hkl hck hV hns hP hR hs hbk hbv (C_grown hA hg1 hpA) hpA)
  have HAW := Lib.hid (hT.away hr)
  have HR1 := Lib.hid ((hr.set (i := 2) HAW.out.rp HAW.out.gp (.int .i32 1)).set (i := 6) HAW.out.rp HAW.out.gp (.int .i32 (-1073741824)))
  have HG1 := Lib.hid hg1
  have HS := Lib.hid hS
  have HL := Lib.hid (And.intro hl (And.intro hkl hck))
  have HNS := Lib.hid hns
  have HN := Lib.hid (And.intro hsz (And.intro hkey hval))
  have HA := Lib.hid (And.intro hA hneA)
  have HB := Lib.hid (And.intro hB hneB)
  have HHIT := Lib.hid hhit
  have HO := Lib.hid hV.ord
  clear hT hC hS hl hkl hck hV hns hP hR hs hbk hbv hA hneA hB hneB hT1 hC1 hg1 hsz hkey hval hhit hr hpA hgp hbg hgl hnc
  go_enter_defers Tryz.func66, Tryz.ntmps66
  go_wp2_with (fail)
  refine (wlock_free rwWLib p 2 _ _ _ c2 c4 c5 c6 f2 f6).mono ?_
  rintro e w' ⟨rfl, rfl⟩
  simp only [show 2 + 4 = 6 from rfl]
  generalize (w.setCell ⟨p, 2, none⟩ (.int .i32 1)).setCell ⟨p, 6, none⟩ (.int .i32 (-1073741824)) = w1 at *
  go_upto_if 31 with (go_at_call 89; (with_reducible refine HGE.out.mono ?_); rintro e w2 ⟨ex, rfl, hex, hg2, cs2, q2, hT2, hC2, hq2, _⟩)
  obtain rfl : ex = true := hex.2 HHIT.out
  have HST := Lib.hid (show PutSt w base p gr (.slice Kx kv.length ck) (.slice (some ⟨g, 0, none⟩) nd.length c) V r (mh : Int) n sz q2 w2 cs2 (.slice Kx kv.length ck) (.slice (some ⟨g, 0, none⟩) nd.length c) kv nd from
    ⟨hT2, hC2, HR1.out.kept hg2 (fun e => HAW.out.rp (by injection e)) (fun e => HAW.out.gp (by injection e)), Fr.of_grown (HG1.out.trans hg2) (fun k hk => .inl (by injection hk with hk; exact hk.symm)), fun k hk => .inl hk⟩)
  clear hex hT2 hC2 hg2 hq2 HGE HR1 HG1
  obtain ⟨x, R', hR', hx0⟩ := HHIT.out
  have hns : ns = P ++ x :: R' := by rw [HNS.out, hR']
  have hxo := HS.out.ok x (by rw [hns]; simp)
  have e1 : nxt 0 R = x.a := by rw [hR', nxt, if_pos (by have := hxo.h1; omega)]
  have hxe : x.a + 4 ≤ nd.length := by have := hxo.end_; omega
  have HXO := Lib.hid hxo
  have HNS2 := Lib.hid hns
  have HY := Lib.hid (And.intro hR' hx0)
  have HSUM := Lib.hid (And.intro hxe (node_sums hxe HL.out.1))
  rw [e1]
  clear hR' hx0 hns hxo e1 hxe
  generalize hxa : x.a = xa at *
  have HXA := Lib.hid hxa
  clear hxa
  -- the key is appended
  have d8 := (HST.out.cellP 8 HST.out.C.c8).1
  have HCA := Lib.hid (HST.out.F.C HA.out.1 HA.out.2)
  generalize hkv3 : kv ++ key = kv3
  have HK3 := Lib.hid hkv3
  have HROOM := Lib.hid (two_len HL.out.2.1 HN.out.2.1)
  clear hkv3
  go_upto_region 7 with (at_builtin; go_loud (refine print_append_row base rfl (.tmp 41) (.tmp 42) 25 5 .u8 1 rfl Tryz.underlying25 info_u8 (by decide) _ kv key _ _ _ rfl rfl HST.out.T.kv (C_ints HCA.out) (Below.refl _ _) HST.out.T.room HROOM.out ?_); rw [HK3.out]; intro v3 w3 ho3 hb3 hg3 hat3; obtain ⟨K3, ck3, rfl⟩ := own_slice ho3; (have hG3 := (HST.out.T.grewKv ho3 hg3).1); have k8 := (blk_cell hG3 8).trans HST.out.C.c8; have kf8 := blk_frozen hG3 8)
  have HST3 := Lib.hid (HST.out.kvs ho3 hg3 hat3)
  clear ho3 hb3 hg3 hat3 hG3 k8 kf8 d8 HST HCA HROOM
  generalize w3.setCell ⟨p, 8, none⟩ (.slice K3 kv3.length ck3) = w4 at *
  -- the value is appended
  have d8 := (HST3.out.cellP 8 HST3.out.C.c8).1
  have HCB := Lib.hid (HST3.out.F.C HB.out.1 HB.out.2)
  generalize hkv4 : kv3 ++ val = kv4
  have HK4 := Lib.hid hkv4
  have HROOM := Lib.hid (three_len HK3.out HL.out.2.1 HN.out.2.1 HN.out.2.2)
  clear hkv4
  go_upto_region 8 with (at_builtin; go_loud (refine print_append_row base rfl (.tmp 50) (.tmp 51) 25 5 .u8 1 rfl Tryz.underlying25 info_u8 (by decide) _ kv3 val _ _ _ rfl rfl HST3.out.T.kv (C_ints HCB.out) (Below.refl _ _) HST3.out.T.room HROOM.out ?_); rw [HK4.out]; intro v5 w5 ho5 hb5 hg5 hat5; obtain ⟨K4, ck4, rfl⟩ := own_slice ho5; (have hG5 := (HST3.out.T.grewKv ho5 hg5).1); have k8 := (blk_cell hG5 8).trans HST3.out.C.c8; have kf8 := blk_frozen hG5 8)
  have HST4 := Lib.hid (HST3.out.kvs ho5 hg5 hat5)
  clear ho5 hb5 hg5 hat5 hG5 k8 kf8 d8 HST3 HCB HROOM
  generalize w5.setCell ⟨p, 8, none⟩ (.slice K4 kv4.length ck4) = w6 at *
  -- where they lie
  have d9 := (HST4.out.cellP 9 HST4.out.C.c9).1
  have m0 := HST4.out.T.numG (i := xa) (by have := HSUM.out.1; omega)
  have b0 := HSUM.out.2.1
  go_upto_region 9 with (fail)
  have hST5 := HST4.out.num xa (kv.length : Int)
  have HST5 := Lib.hid hST5
  clear hST5 HST4 m0 d9
  generalize w6.setCell ⟨g, xa, none⟩ (.int .i64 (kv.length : Int)) = w7 at *
  generalize hnd5 : nd.set xa (kv.length : Int) = nd5 at *
  have hl5 : nd5.length = nd.length := by rw [← hnd5, List.length_set]
  have HL5 := Lib.hid hl5
  have HND5 := Lib.hid hnd5
  have d9 := (HST5.out.cellP 9 HST5.out.C.c9).1
  have m2 := HST5.out.read hl5.symm (i := xa + 2) (by have := HSUM.out.1; omega)
  have hg2 : G nd5 (xa + 2) = (x.val.length : Int) := by
    rw [← hnd5, G_set_ne (by omega), ← HXA.out]
    exact HXO.out.vl
  rw [hg2] at m2
  obtain ⟨_, _, _, _, b1, _, b2, _, b3, b4, _, _⟩ := HSUM.out
  clear hl5 hnd5 hg2 b0
  generalize hxv : x.val.length = xv at *
  have HXV := Lib.hid hxv
  clear hxv b4
  go_upto_region 11 with (fail)
  have HST6 := Lib.hid (HST5.out.num' HL5.out.symm (xa + 2) (val.length : Int))
  clear HST5 m2 d9 b1 b2 b3
  generalize w7.setCell ⟨g, xa + 2, none⟩ (.int .i64 (val.length : Int)) = w8 at *
  obtain ⟨u1, u2⟩ := put_sums (sz := sz) (vl := val.length) (xl := xv) HN.out.2.2 (by rw [← HXV.out]; exact val_len HXO.out HL.out.2.1) HN.out.1
  have e24 := HST6.out.cellP 24 HST6.out.C.c24
  have HST7 := Lib.hid (HST6.out.s24 (sz + ((val.length : Int) - (xv : Int))))
  go_wp2_with (fail)
  refine leaves_cons (f := 88) (args := #[.pointer (some ⟨p, 2, none⟩)]) (by simp) (by simp [go_sem]) ?_
  have l2 := HST7.out.cellP 2 HST7.out.C.c2
  have l6 := HST7.out.cellP 6 HST7.out.C.c6
  refine (wunlock_deferred rwWLib p 2 (.int .u32 0) (.int .u32 0) .returning _ l2.1 (HST7.out.cellP 4 HST7.out.C.c4).1 (HST7.out.cellP 5 HST7.out.C.c5).1 l6.1 l2.2 l6.2).mono ?_
  rintro e u' w'' ⟨rfl, rfl, rfl⟩
  have hkey : x.key = key := (HO.out.zero _ _).1 HY.out.2
  have hsk : Skip ((nd5).set (xa + 2) (val.length : Int)) kv4 mh (P ++ { x with val := val } :: R') := by
    have h := skip_val HS.out HNS2.out val
    rw [show kv ++ (x.key ++ val) = kv4 from by rw [hkey, ← List.append_assoc, HK3.out, HK4.out], show (nd.set x.a (kv.length : Int)).set (x.a + 2) (val.length : Int) = nd5.set (xa + 2) (val.length : Int) from by rw [HXA.out, HND5.out]] at h
    exact h
  have hlk : kv4.length = kv.length + key.length + val.length := by rw [← HK4.out, ← HK3.out, List.length_append, List.length_append]
  have hl6 : (nd5.set (xa + 2) (val.length : Int)).length = nd.length := by rw [List.length_set, HL5.out]
  have hcap : kv4.length ≤ ck4 := own_cap HST7.out.T.kv
  refine ⟨_, results_tmp rfl _ _ _, rfl, x, R', HY.out.1, HY.out.2, ?_⟩
  rw [HXV.out]
  have h7 := HST7.out
  generalize (nd5.set (xa + 2) (val.length : Int)) = nd6 at *
  exact PutSt.left' hl6.symm h7 hsk (by omega) (by omega) hcap

end Go.Proofs.YtdkkkikcigjlhaaGreatDoor.Md
