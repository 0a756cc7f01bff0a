/- The memory table as a sorted list: a new one; Put. The memory table's iterator: its cells; fill. The memory table's iterator: fill on a node. The memory table's iterator: fill on a node, no range. The memory table's iterator: fill on a node, held against the range's lower end. The memory table's iterator: fill, whatever it stands on. -/
import Derived.Test.YtdkkkikcigjlhaaGreatDoorMm08
import Derived.WalkMore
import Derived.ScopeJumps
set_option linter.unusedVariables false
set_option linter.unusedSimpArgs false
namespace Go.Proofs.YtdkkkikcigjlhaaGreatDoor.Md
open Go.RowKit Go.Proofs.YtdkkkikcigjlhaaGreatDoor.Con Go.Proofs.YtdkkkikcigjlhaaGreatDoor.Run Go.Proofs.YtdkkkikcigjlhaaGreatDoorW.PrintWords Go.Proofs.YtdkkkikcigjlhaaGreatDoorW.PrintMore Go.Proofs.YtdkkkikcigjlhaaGreatDoor.Cmp Go.Sort Go.RwLone

structure MemD where
  cs : Array Value
  q : Nat → Int
  r : Nat
  gr : Nat
  Kx : Option Addr
  ck : Nat
  N : Option Addr
  c : Nat
  kv : List Int
  nd : List Int
  mh : Nat

def MemD.vk (D : MemD) : Value := .slice D.Kx D.kv.length D.ck
def MemD.vn (D : MemD) : Value := .slice D.N D.nd.length D.c
def MemD.own (D : MemD) (p k : Nat) : Prop := k = D.r ∨ foot p D.gr D.vk D.vn k

def weigh (ns : List Node) : Nat := (ns.map fun x => x.key.length + x.val.length).sum

structure Mem (D : MemD) (W : World) (base p : Nat) (V : Value) (f : List Int → List Int → Int) (ns : List Node) (kb nb : Nat) : Prop where
  T : Tab W base p D.cs D.vk D.vn D.kv D.nd
  C : Cs D.cs V D.r 0 0 D.vk D.vn D.q (D.mh : Int) (ns.length : Int) (weigh ns : Int)
  S : Skip D.nd D.kv D.mh ns
  R : Rnd W D.r D.gr
  cm : Cmpr V f
  sorted : Sorted f ns
  byt : ∀ x ∈ ns, Byt x.key ∧ Byt x.val
  cap : D.kv.length ≤ D.ck
  kvb : D.kv.length ≤ kb
  ndb : D.nd.length ≤ nb
  few : ns.length ≤ nb
  light : weigh ns ≤ kb
  far : ∀ k, D.own p k → base ≤ k

structure MemStep (w : World) (p : Nat) (D D' : MemD) (w' : World) : Prop where
  fr : Fr w w' (D.own p)
  own : ∀ k, D'.own p k → D.own p k ∨ w.heap.size ≤ k

theorem MemStep.refl (w : World) (p : Nat) (D : MemD) : MemStep w p D D w := ⟨Fr.refl _ _, fun k hk => .inl hk⟩
theorem MemStep.then_ {w w1 w2 : World} {p : Nat} {D D1 D2 : MemD} (h : MemStep w p D D1 w1) (g : MemStep w1 p D1 D2 w2) : MemStep w p D D2 w2 :=
  ⟨h.fr.then_ g.fr h.own, fun k hk => (g.own k hk).elim (h.own k) (fun q => .inr (Nat.le_trans h.fr.size q))⟩

section
variable {D : MemD} {W : World} {base p kb nb : Nat} {V : Value} {f : List Int → List Int → Int} {ns : List Node}

theorem Mem.keep {W1 : World} (h : Mem D W base p V f ns kb nb) (hk : ∀ k, D.own p k → W1.heap[k]? = W.heap[k]?) : Mem D W1 base p V f ns kb nb := by
  have o1 : ∀ {e : TypeId} {n : Nat} {v : Value} {xs : List Value}, W.ownsRow base e 1 v n xs → (∀ k, some k = v.ownBlock → D.own p k) → W1.ownsRow base e 1 v n xs := fun ho hs => own_move ho (fun k e => hk k (hs k e.symm))
  obtain ⟨a, ⟨hi, lo, b⟩, c⟩ := h.R
  exact ⟨⟨(hk p (.inr (.inl rfl))).trans h.T.cell, o1 h.T.kv (fun k e => .inr (.inr (.inr (.inl e)))), o1 h.T.nd (fun k e => .inr (.inr (.inr (.inr e)))), h.T.at_⟩, h.C, h.S,
    ⟨(hk _ (.inl rfl)).trans a, ⟨hi, lo, (hk _ (.inr (.inr (.inl rfl)))).trans b⟩, c⟩, h.cm, h.sorted, h.byt, h.cap, h.kvb, h.ndb, h.few, h.light, h.far⟩

theorem Mem.below {W1 : World} (h : Mem D W base p V f ns kb nb) (hb : Below W.heap.size W W1) : Mem D W1 base p V f ns kb nb := by
  have ha := h.T.away h.R
  refine ⟨h.T.below hb, h.C, h.S, h.R.kept (row := none) (grown_of_below hb none) (by simp) (by simp), h.cm, h.sorted, h.byt, h.cap, h.kvb, h.ndb, h.few, h.light, h.far⟩

theorem Mem.inside (h : Mem D W base p V f ns kb nb) : ∀ k, D.own p k → k < W.heap.size := by
  obtain ⟨a, ⟨hi, lo, b⟩, c⟩ := h.R
  intro k hk
  rcases hk with rfl | rfl | rfl | q | q
  · exact blk_lt a
  · exact blk_lt h.T.cell
  · exact blk_lt b
  · exact own_lt h.T.kv k q.symm
  · exact own_lt h.T.nd k q.symm

theorem Mem.more {kb' nb' : Nat} (h : Mem D W base p V f ns kb nb) (h1 : kb ≤ kb') (h2 : nb ≤ nb') : Mem D W base p V f ns kb' nb' :=
  ⟨h.T, h.C, h.S, h.R, h.cm, h.sorted, h.byt, h.cap, Nat.le_trans h.kvb h1, Nat.le_trans h.ndb h2, Nat.le_trans h.few h2, Nat.le_trans h.light h1, h.far⟩
end

theorem Mem.split {D : MemD} {W : World} {base p kb nb : Nat} {V : Value} {f : List Int → List Int → Int} {ns : List Node} (h : Mem D W base p V f ns kb nb) (key : List Int) : ∃ P R, ns = P ++ R ∧ (∀ x ∈ P, f x.key key < 0) ∧ (∀ x ∈ R, 0 ≤ f x.key key) ∧ Sorted f R := by
  obtain ⟨P, R, e, h1, h2⟩ := sorted_split h.cm.ord key ns h.sorted
  refine ⟨P, R, e, h1, h2, ?_⟩
  have := h.sorted
  rw [e] at this
  exact (List.pairwise_append.1 this).2.1

theorem weigh_app (a b : List Node) : weigh (a ++ b) = weigh a + weigh b := by simp [weigh]
theorem weigh_cons (x : Node) (b : List Node) : weigh (x :: b) = x.key.length + x.val.length + weigh b := by simp [weigh]

inductive PutNs (f : List Int → List Int → Int) (P R : List Node) (key val : List Int) : List Node → Prop
  | hit (x : Node) (R' : List Node) (hR : R = x :: R') (h0 : f x.key key = 0) : PutNs f P R key val (P ++ { x with val := val } :: R')
  | new (a h : Nat) (hm : ¬ ∃ x R', R = x :: R' ∧ f x.key key = 0) : PutNs f P R key val (P ++ ⟨a, h, key, val⟩ :: R)

theorem Ord.lt_of {f : List Int → List Int → Int} (h : Ord f) {a b c : List Int} (h1 : f a b < 0) (h2 : 0 ≤ f c b) : f a c < 0 := by
  rcases h.three c b with q | q | q
  · omega
  · rwa [← (h.zero _ _).1 q] at h1
  · have h3 : f b c < 0 := by rw [h.swap]; omega
    exact h.trans _ _ _ h1 h3

theorem PutNs.sorted {f : List Int → List Int → Int} (ho : Ord f) {P R ns' : List Node} {key val : List Int} (hs : Sorted f (P ++ R)) (hP : ∀ x ∈ P, f x.key key < 0) (hR : ∀ x ∈ R, 0 ≤ f x.key key) (h : PutNs f P R key val ns') : Sorted f ns' := by
  obtain ⟨h1, h2, h3⟩ := List.pairwise_append.1 hs
  cases h with
  | hit x R' e h0 =>
    subst e
    obtain ⟨h4, h5⟩ := List.pairwise_cons.1 h2
    refine List.pairwise_append.2 ⟨h1, List.pairwise_cons.2 ⟨fun y hy => h4 y hy, h5⟩, fun y hy z hz => ?_⟩
    rcases List.mem_cons.1 hz with rfl | hz
    · exact h3 y hy x List.mem_cons_self
    · exact h3 y hy z (List.mem_cons_of_mem _ hz)
  | new a hh hm =>
    refine List.pairwise_append.2 ⟨h1, List.pairwise_cons.2 ⟨fun y hy => ?_, h2⟩, fun y hy z hz => ?_⟩
    · have h4 := hR y hy
      have : f y.key key ≠ 0 := by
        intro q
        obtain ⟨R', e⟩ := hit_first ho h2 hR hy q
        exact hm ⟨y, R', e, q⟩
      show f key y.key < 0
      rw [ho.swap]
      omega
    · rcases List.mem_cons.1 hz with rfl | hz
      · exact hP y hy
      · exact h3 y hy z hz

theorem PutNs.byt {f : List Int → List Int → Int} {P R ns' : List Node} {key val : List Int} (hb : ∀ x ∈ P ++ R, Byt x.key ∧ Byt x.val) (hk : Byt key) (hv : Byt val) (h : PutNs f P R key val ns') : ∀ x ∈ ns', Byt x.key ∧ Byt x.val := by
  cases h with
  | hit x R' e h0 =>
    subst e
    intro y hy
    rcases List.mem_append.1 hy with hy | hy
    · exact hb y (List.mem_append_left _ hy)
    · rcases List.mem_cons.1 hy with rfl | hy
      · exact ⟨(hb x (by simp)).1, hv⟩
      · exact hb y (List.mem_append_right _ (List.mem_cons_of_mem _ hy))
  | new a hh hm =>
    intro y hy
    rcases List.mem_append.1 hy with hy | hy
    · exact hb y (List.mem_append_left _ hy)
    · rcases List.mem_cons.1 hy with rfl | hy
      · exact ⟨hk, hv⟩
      · exact hb y (List.mem_append_right _ hy)

set_option maxRecDepth 100000 in
theorem Mem.put {D : MemD} {w : World} {base p kb nb ca cb : Nat} {V : Value} {f : List Int → List Int → Int} {ns : List Node} {A0 B0 : Option Addr} {key val : List Int} (h : Mem D w base p V f ns kb nb)
    (hkb : kb + key.length + val.length ≤ 1099511627776) (hnb : nb + 16 ≤ 1099511627776)
    (hA : Kd.C (Kd.int .u8) w A0 key.length key) (hB : Kd.C (Kd.int .u8) w B0 val.length val) (hneA : 0 < key.length → ∀ a, A0 = some a → ¬ D.own p a.block) (hneB : 0 < val.length → ∀ a, B0 = some a → ¬ D.own p a.block) (hk : Byt key) (hv : Byt val) :
    Calls Tryz.prog 66 #[.pointer (some ⟨p, 0, none⟩), .slice A0 key.length ca, .slice B0 val.length cb] w fun e w' => e = .returned .nilIface ∧
      ∃ D' ns' P R, Mem D' w' base p V f ns' (kb + key.length + val.length) (nb + 16) ∧ MemStep w p D D' w' ∧ ns = P ++ R ∧ (∀ x ∈ P, f x.key key < 0) ∧ (∀ x ∈ R, 0 ≤ f x.key key) ∧ PutNs f P R key val ns' := by
  obtain ⟨P, R, e, hP, hR, hs⟩ := h.split key
  have h1 := h.kvb
  have h2 := h.ndb
  have h3 := h.light
  have h4 := h.few
  have hroom : Tab w base p D.cs D.vk D.vn D.kv D.nd := h.T
  -- what both ways leave
  have fin : ∀ (w' : World) (n sz : Int) (ns' : List Node), PutLeft w base p D.gr D.vk D.vn V D.r D.kv D.nd key val n sz ns' w' → n = (ns'.length : Int) → sz = (weigh ns' : Int) → PutNs f P R key val ns' → ns'.length ≤ nb + 16 → weigh ns' ≤ kb + key.length + val.length →
      ∃ D', Mem D' w' base p V f ns' (kb + key.length + val.length) (nb + 16) ∧ MemStep w p D D' w' := by
    intro w' n sz ns' hl hn hsz hp hfew hlight
    obtain ⟨hf, cs', q', Kx', ck', N', c', kv', nd', mh', t1, t2, t3, t4, t5, t6, t7, t8⟩ := hl
    subst hn hsz
    refine ⟨⟨cs', q', D.r, D.gr, Kx', ck', N', c', kv', nd', mh'⟩, ⟨t1, t2, t3, t4, h.cm, hp.sorted h.cm.ord (e ▸ h.sorted) hP hR, hp.byt (e ▸ h.byt) hk hv, t7, (show kv'.length ≤ _ by omega), (show nd'.length ≤ _ by omega), hfew, hlight, ?_⟩, ⟨hf.mono (fun k q => .inr q), ?_⟩⟩
    · intro k hk
      rcases hk with rfl | hk
      · exact h.far _ (.inl rfl)
      · rcases t8 k hk with q | q
        · exact h.far k (.inr q)
        · exact Nat.le_trans hroom.room q
    · intro k hk
      rcases hk with rfl | hk
      · exact .inl (.inl rfl)
      · rcases t8 k hk with q | q
        · exact .inl (.inr q)
        · exact .inr q
  by_cases hh : ∃ x R', R = x :: R' ∧ f x.key key = 0
  · refine (PutHit_calls (N := D.N) (c := D.c) (Kx := D.Kx) (ck := D.ck) (ca := ca) (cb := cb) h.T h.C h.S (by omega) (by omega) h.cap h.cm e hP hR hs hk (fun x hx => (h.byt x hx).1) hA hB (fun hp a ha q => hneA hp a ha (.inr q)) (fun hp a ha q => hneB hp a ha (.inr q)) h.R (by omega) (by omega) (by omega) hh).mono ?_
    rintro en w' ⟨rfl, x, R', hx, h0, hl⟩
    have hp : PutNs f P R key val _ := PutNs.hit x R' hx h0
    have hw : weigh (P ++ R) = weigh P + (x.key.length + x.val.length + weigh R') := by rw [hx, weigh_app, weigh_cons]
    have hkey : x.key = key := (h.cm.ord.zero _ _).1 h0
    rw [e] at h3 h4 hl
    have hw' : weigh (P ++ { x with val := val } :: R') = weigh P + (x.key.length + val.length + weigh R') := by rw [weigh_app, weigh_cons]
    have hlen : (P ++ { x with val := val } :: R').length = (P ++ R).length := by rw [hx]; simp
    obtain ⟨D', m1, m2⟩ := fin w' _ _ _ hl (by rw [hlen]) (by rw [hw, hw']; omega) hp (by rw [hlen]; omega) (by rw [hw'] ; omega)
    exact ⟨rfl, D', _, P, R, m1, m2, e, hP, hR, hp⟩
  · refine (PutNew_calls (N := D.N) (c := D.c) (Kx := D.Kx) (ck := D.ck) (ca := ca) (cb := cb) h.T h.C h.S (by omega) (by omega) h.cap h.cm e hP hR hs hk (fun x hx => (h.byt x hx).1) hA hB (fun hp a ha q => hneA hp a ha (.inr q)) (fun hp a ha q => hneB hp a ha (.inr q)) h.R (by omega) (by omega) (by omega) (by omega) hh).mono ?_
    rintro en w' ⟨rfl, hgt, hl⟩
    have hp : PutNs f P R key val _ := PutNs.new D.nd.length hgt hh
    rw [e] at h3 h4 hl
    have hw : weigh (P ++ R) = weigh P + weigh R := weigh_app _ _
    have hw' : weigh (P ++ ⟨D.nd.length, hgt, key, val⟩ :: R) = weigh P + (key.length + val.length + weigh R) := by rw [weigh_app, weigh_cons]
    have hlen : (P ++ (⟨D.nd.length, hgt, key, val⟩ : Node) :: R).length = (P ++ R).length + 1 := by simp; omega
    obtain ⟨D', m1, m2⟩ := fin w' _ _ _ hl (by rw [hlen]; simp) (by rw [hw, hw']; omega) hp (by rw [hlen]; omega) (by rw [hw']; omega)
    exact ⟨rfl, D', _, P, R, m1, m2, e, hP, hR, hp⟩

theorem own_block {W : World} {base g n cap : Nat} {e : TypeId} {cur : Array Value} (h : W.heap[g]? = some (.cells cur e (0, 0))) (hb : base ≤ g) (hn : n ≤ cap) (hc : cap ≤ 9223372036854775807) (hs : cur.size = cap) {xs : List Value} (hx : cur.toList.take n = xs) : W.ownsRow base e 1 (.slice (some ⟨g, 0, none⟩) n cap) n xs := by
  subst hx
  refine ⟨by rw [List.length_take, Array.length_toList]; omega, .inr ⟨g, cap, cur, rfl, hb, h, hn, hc, by omega, by simp⟩⟩

theorem newCs_Cs (V : Value) (r gk gn : Nat) : Cs (newCs V r gk gn) V r 0 0 (.slice (some ⟨gk, 0, none⟩) 0 16) (.slice (some ⟨gn, 0, none⟩) 16 16) (fun _ => 0) 1 0 0 :=
  ⟨rfl, rfl, rfl, rfl, rfl, rfl, rfl, rfl, rfl, fun i hi => match i, hi with | 0, _ => rfl | 1, _ => rfl | 2, _ => rfl | 3, _ => rfl | 4, _ => rfl | 5, _ => rfl | 6, _ => rfl | 7, _ => rfl | 8, _ => rfl | 9, _ => rfl | 10, _ => rfl | 11, _ => rfl, rfl, rfl, rfl⟩

theorem G_zeros (i : Nat) : G (List.replicate 16 (0 : Int)) i = 0 := by
  unfold G
  rw [List.getD_eq_getElem?_getD, List.getElem?_replicate]
  split <;> rfl

theorem Mem_new {w : World} {T : Nat} {V : Value} {f : List Int → List Int → Int} (hV : V = .iface T (.agg #[])) (hc : Cmpr V f) :
    Calls Tryz.prog 65 #[V, .int .i64 16] w fun e w' => ∃ p D, e = .returned (.pointer (some ⟨p, 0, none⟩)) ∧ Mem D w' w.heap.size p V f [] 0 16 ∧ Below w.heap.size w w' := by
  refine (New_calls hV).mono ?_
  rintro e w' ⟨p, r, gr, gk, gn, W, rfl, hl, rfl⟩
  obtain ⟨a, b, hgr⟩ := hl.bgr
  have hT : Tab W w.heap.size p (newCs V r gk gn) (.slice (some ⟨gk, 0, none⟩) 0 16) (.slice (some ⟨gn, 0, none⟩) 16 16) [] (List.replicate 16 0) :=
    ⟨hl.bp, own_block hl.bgk hl.at_.2.2.2.1 (by decide) (by decide) rfl rfl, own_block hl.bgn hl.at_.2.2.2.2 (by decide) (by decide) rfl rfl, hl.at_.1⟩
  have hR : Rnd W r gr := ⟨hl.br, ⟨a, b, hgr⟩, blk_type hl.br hgr (by decide)⟩
  have ha := hT.away hR
  have hT2 := Tab.setNd (nd := List.replicate 16 0) (g := gn) (c := 16) hT 3 12
  refine ⟨p, ⟨newCs V r gk gn, fun _ => 0, r, gr, some ⟨gk, 0, none⟩, 16, some ⟨gn, 0, none⟩, 16, [], (List.replicate 16 (0 : Int)).set 3 12, 1⟩, rfl, ⟨hT2, newCs_Cs V r gk gn, skip_new _ rfl (fun i hi => by rw [G_set_ne (Ne.symm hi)]; exact G_zeros i), hR.set (fun e => ha.rn (by rw [e]; rfl)) (fun e => ha.gn (by rw [e]; rfl)) _, hc, .nil, by simp, (show 0 ≤ 16 by decide), Nat.le_refl 0, (show 16 ≤ 16 by decide), Nat.zero_le _, Nat.le_refl 0, ?_⟩, ?_⟩
  · intro k hk
    rcases hk with rfl | rfl | rfl | q | q
    · exact hl.at_.2.1
    · exact hl.at_.1
    · exact hl.at_.2.2.1
    · injection q with q
      rw [q]
      exact hl.at_.2.2.2.1
    · injection q with q
      rw [q]
      exact hl.at_.2.2.2.2
  · exact hl.below.setCell (p := ⟨gn, 3, none⟩) hl.at_.2.2.2.2 _

end Go.Proofs.YtdkkkikcigjlhaaGreatDoor.Md

namespace Go.Proofs.YtdkkkikcigjlhaaGreatDoor.Md
open Go.RowKit Go.Proofs.YtdkkkikcigjlhaaGreatDoor.Con Go.Proofs.YtdkkkikcigjlhaaGreatDoor.Run Go.Proofs.YtdkkkikcigjlhaaGreatDoorW.PrintWords Go.Proofs.YtdkkkikcigjlhaaGreatDoorW.PrintMore Go.Proofs.YtdkkkikcigjlhaaGreatDoor.Cmp Go.Sort Go.RwLone

def nilS : Value := .slice none 0 0

structure Is (ics : Array Value) (p : Nat) (sv : Value) (a : Int) (fw : Bool) (k v : Value) : Prop where
  size : ics.size = 9
  c0 : ics[0]? = some .nilIface
  c1 : ics[1]? = some (.bool false)
  c2 : ics[2]? = some (.pointer (some ⟨p, 0, none⟩))
  c3 : ics[3]? = some sv
  c4 : ics[4]? = some (.int .i64 a)
  c5 : ics[5]? = some (.bool fw)
  c6 : ics[6]? = some k
  c7 : ics[7]? = some v
  c8 : ics[8]? = some .nilIface

section
variable {ics : Array Value} {p : Nat} {sv : Value} {a : Int} {fw : Bool} {k v : Value}
theorem Is.s4 (h : Is ics p sv a fw k v) (u : Int) : Is (ics.setIfInBounds 4 (.int .i64 u)) p sv u fw k v := by
  have hs := h.size
  exact ⟨by simpa using hs, (set_ne (by omega) _).trans h.c0, (set_ne (by omega) _).trans h.c1, (set_ne (by omega) _).trans h.c2, (set_ne (by omega) _).trans h.c3, set_eq (by omega) _, (set_ne (by omega) _).trans h.c5, (set_ne (by omega) _).trans h.c6, (set_ne (by omega) _).trans h.c7, (set_ne (by omega) _).trans h.c8⟩
theorem Is.s5 (h : Is ics p sv a fw k v) (u : Bool) : Is (ics.setIfInBounds 5 (.bool u)) p sv a u k v := by
  have hs := h.size
  exact ⟨by simpa using hs, (set_ne (by omega) _).trans h.c0, (set_ne (by omega) _).trans h.c1, (set_ne (by omega) _).trans h.c2, (set_ne (by omega) _).trans h.c3, (set_ne (by omega) _).trans h.c4, set_eq (by omega) _, (set_ne (by omega) _).trans h.c6, (set_ne (by omega) _).trans h.c7, (set_ne (by omega) _).trans h.c8⟩
theorem Is.s6 (h : Is ics p sv a fw k v) (u : Value) : Is (ics.setIfInBounds 6 u) p sv a fw u v := by
  have hs := h.size
  exact ⟨by simpa using hs, (set_ne (by omega) _).trans h.c0, (set_ne (by omega) _).trans h.c1, (set_ne (by omega) _).trans h.c2, (set_ne (by omega) _).trans h.c3, (set_ne (by omega) _).trans h.c4, (set_ne (by omega) _).trans h.c5, set_eq (by omega) _, (set_ne (by omega) _).trans h.c7, (set_ne (by omega) _).trans h.c8⟩
theorem Is.s7 (h : Is ics p sv a fw k v) (u : Value) : Is (ics.setIfInBounds 7 u) p sv a fw k u := by
  have hs := h.size
  exact ⟨by simpa using hs, (set_ne (by omega) _).trans h.c0, (set_ne (by omega) _).trans h.c1, (set_ne (by omega) _).trans h.c2, (set_ne (by omega) _).trans h.c3, (set_ne (by omega) _).trans h.c4, (set_ne (by omega) _).trans h.c5, (set_ne (by omega) _).trans h.c6, set_eq (by omega) _, (set_ne (by omega) _).trans h.c8⟩
end

def ItAt (kv : List Int) (Kx : Option Addr) (ics : Array Value) (p : Nat) (sv : Value) (fw : Bool) : Option Node → Prop
  | none => Is ics p sv 0 fw nilS nilS
  | some x => ∃ A c B d, Is ics p sv (x.a : Int) fw (.slice A x.key.length c) (.slice B x.val.length d) ∧ x.key.length ≤ c ∧ x.val.length ≤ d ∧ Cut kv Kx A x.key ∧ Cut kv Kx B x.val

def Blk (W : World) (it : Nat) (ics : Array Value) : Prop := W.heap[it]? = some (.cells ics 153 (0, 0))

theorem Blk.set {W : World} {it : Nat} {ics : Array Value} (h : Blk W it ics) (i : Nat) (u : Value) : Blk (W.setCell ⟨it, i, none⟩ u) it (ics.setIfInBounds i u) := blk_set h i u
theorem Blk.cell {W : World} {it i : Nat} {ics : Array Value} (h : Blk W it ics) {u : Value} (hu : ics[i]? = some u) : W.cell? ⟨it, i, none⟩ = some u := (blk_cell h i).trans hu
theorem Blk.froz {W : World} {it : Nat} {ics : Array Value} (h : Blk W it ics) (i : Nat) : W.frozen? ⟨it, i, none⟩ = false := blk_frozen h i
theorem Blk.below {W W1 : World} {it : Nat} {ics : Array Value} (h : Blk W it ics) (hb : Below W.heap.size W W1) : Blk W1 it ics := (hb.block it (blk_lt h)).trans h

def FillTold (w : World) (it p : Nat) (sv : Value) (fw : Bool) (kv : List Int) (Kx : Option Addr) (o : Option Node) (e : Ending) (w' : World) : Prop :=
  e = .returned (.bool o.isSome) ∧ Fr w w' (fun k => k = it) ∧ ∃ ics', Blk w' it ics' ∧ ItAt kv Kx ics' p sv fw o

set_option maxHeartbeats 1600000 in
set_option maxRecDepth 100000 in
theorem fill_zero {w : World} {it p : Nat} {ics : Array Value} {sv k v : Value} {fw b1 b2 : Bool} {kv : List Int} {Kx : Option Addr} (hb : Blk w it ics) (hi : Is ics p sv 0 fw k v) :
    Calls Tryz.prog 175 #[.pointer (some ⟨it, 0, none⟩), .bool b1, .bool b2] w fun e w' => FillTold w it p sv fw kv Kx none e w' := by
  have c4 := hb.cell hi.c4
  have c6 := hb.cell hi.c6
  have f6 := hb.froz 6
  have c7 := hb.cell hi.c7
  have f7 := hb.froz 7
  have HB := Lib.hid ((hb.set 6 nilS).set 7 nilS)
  have HI := Lib.hid ((hi.s6 nilS).s7 nilS)
  clear hb hi
  go_enter Tryz.func175, Tryz.ntmps175
  go_wp2
  go_step3
  go_wp2
  go_step3
  go_wp2
  rw [Exit.noGoto_ret]
  go_ret
  exact ⟨rfl, ((Fr.refl w (fun k => k = it)).setCell (p := ⟨it, 6, none⟩) (.inl rfl) nilS).setCell (p := ⟨it, 7, none⟩) (.inl rfl) nilS, _, HB.out, HI.out⟩

theorem wp_scope_ahead {P : Program} {a : Act} {w : World} {Q : Exit → Act → World → Prop} {c rest : Code} (l : Nat) (hf : findLabel c l = some rest)
    (h : c.wp P (Exit.jump l (fun a w => rest.wp P (Exit.noGoto Q) a w) Q) a w) : (Code.scope c).wp P Q a w :=
  wp_scope_jumps l (fun a w => rest.wp P (Exit.noGoto Q) a w) (fun _ _ => 0) hf h (fun a w hJ => Code.wp_mono (fun e a w hq => by
    cases e <;> first | exact hq | exact (hq : False).elim) hJ)

end Go.Proofs.YtdkkkikcigjlhaaGreatDoor.Md

namespace Go.Proofs.YtdkkkikcigjlhaaGreatDoor.Md
open Go.RowKit Go.Proofs.YtdkkkikcigjlhaaGreatDoor.Con Go.Proofs.YtdkkkikcigjlhaaGreatDoor.Run Go.Proofs.YtdkkkikcigjlhaaGreatDoorW.PrintWords Go.Proofs.YtdkkkikcigjlhaaGreatDoorW.PrintMore Go.Proofs.YtdkkkikcigjlhaaGreatDoor.Cmp Go.Sort Go.RwLone

def Bd (w : World) (v : Value) : Option (List Int) → Prop
  | none => v = .slice none 0 0
  | some l => ∃ a c, v = .slice (some a) l.length c ∧ Kd.C (Kd.int .u8) w (some a) l.length l ∧ Byt l

def under (f : List Int → List Int → Int) (lim : Option (List Int)) (key : List Int) : Bool := match lim with
  | none => true
  | some l => decide (f key l < 0)
def over (f : List Int → List Int → Int) (st : Option (List Int)) (key : List Int) : Bool := match st with
  | none => true
  | some l => !decide (f key l < 0)

theorem over_no {f : List Int → List Int → Int} {l key : List Int} (h : f key l < 0) : over f (some l) key = false := by simp [over, h]
theorem over_yes {f : List Int → List Int → Int} {l key : List Int} (h : 0 ≤ f key l) : over f (some l) key = true := by simp [over]; omega

theorem Bd.below {w w1 : World} {v : Value} {b : Option (List Int)} (h : Bd w v b) (hb : Below w.heap.size w w1) : Bd w1 v b := by
  cases b with
  | none => exact h
  | some l =>
    obtain ⟨a, c, h1, h2, h3⟩ := h
    exact ⟨a, c, h1, Kd.C_below h2 hb, h3⟩

theorem Tab.fr {W W1 : World} {base p it : Nat} {cs : Array Value} {vk vn : Value} {kv nd : List Int} (h : Tab W base p cs vk vn kv nd) (hf : Fr W W1 (fun k => k = it)) (h1 : it ≠ p) (h2 : some it ≠ vk.ownBlock) (h3 : some it ≠ vn.ownBlock) : Tab W1 base p cs vk vn kv nd :=
  ⟨(hf.block p (blk_lt h.cell) (Ne.symm h1)).trans h.cell, own_move h.kv (fun k hk => hf.block k (own_lt h.kv k hk) (fun e => h2 (by rw [← e, hk]))), own_move h.nd (fun k hk => hf.block k (own_lt h.nd k hk) (fun e => h3 (by rw [← e, hk]))), h.at_⟩

set_option maxHeartbeats 3200000 in
set_option maxRecDepth 100000 in
theorem FillL_calls {w : World} {base p it s r mh c ck : Nat} {cs ics : Array Value} {V k v Sb Lb : Value} {N Kx : Option Addr} {l0 l4 n sz : Int} {q : Nat → Int} {kv nd : List Int} {ns : List Node} {f : List Int → List Int → Int} {fw : Bool} {st lim : Option (List Int)} {x : Node}
    (hT : Tab w base p cs (.slice Kx kv.length ck) (.slice N nd.length c) kv nd) (hC : Cs cs V r l0 l4 (.slice Kx kv.length ck) (.slice N nd.length c) q (mh : Int) n sz) (hS : Skip nd kv mh ns) (hl : nd.length ≤ 1099511627776) (hkl : kv.length ≤ 1099511627776) (hck : kv.length ≤ ck)
    (hV : Cmpr V f) (hbv : ∀ x ∈ ns, Byt x.key ∧ Byt x.val) (hb : Blk w it ics) (hi : Is ics p (.pointer (some ⟨s, 0, none⟩)) (x.a : Int) fw k v) (hx : x ∈ ns) (hs0 : w.cell? ⟨s, 0, none⟩ = some Sb) (hs1 : w.cell? ⟨s, 1, none⟩ = some Lb) (hst : Bd w Sb st) (hlim : Bd w Lb lim) (hsi : s ≠ it) (hsl : ∀ l a c, lim = some l → Lb = .slice (some a) l.length c → a.block ≠ it) (hitp : it ≠ p) (hitk : some it ≠ (Value.slice Kx kv.length ck).ownBlock) (hitn : some it ≠ (Value.slice N nd.length c).ownBlock) :
    Calls Tryz.prog 175 #[.pointer (some ⟨it, 0, none⟩), .bool false, .bool true] w fun e w' => FillTold w it p (.pointer (some ⟨s, 0, none⟩)) fw kv Kx (if under f lim x.key then some x else none) e w' := by
  have hxo := hS.ok x hx
  have hxe : x.a + 4 ≤ nd.length := by have := hxo.end_; omega
  have hx16 := hxo.a
  obtain ⟨o, Ak, Av, ck', cv', k1, k2, k3, k4, k5, k6, k7, k8⟩ := kv_cut (Kx := Kx) hxo hck
  obtain ⟨ad, hN, x0, x1, x2, _⟩ := node_reads hT hxo k1
  subst hN
  have d9 : w.cell? ⟨p, 9, none⟩ = some (.slice (some ad) nd.length c) := (blk_cell hT.cell 9).trans hC.c9
  have d8 : w.cell? ⟨p, 8, none⟩ = some (.slice Kx kv.length ck) := (blk_cell hT.cell 8).trans hC.c8
  have d0 : w.cell? ⟨p, 0, none⟩ = some V := (blk_cell hT.cell 0).trans hC.c0
  have i2 := hb.cell hi.c2
  have i3 := hb.cell hi.c3
  have i4 := hb.cell hi.c4
  have HT := Lib.hid hT
  have HC := Lib.hid hC
  have HBK := Lib.hid hb
  have HI := Lib.hid hi
  have HV := Lib.hid hV
  have HR := Lib.hid (And.intro hs0 (And.intro hs1 (And.intro hst (And.intro hlim hsl))))
  have HSUM := Lib.hid (And.intro (node_sums hxe hl) (kv_sums k2 hkl))
  have HY := Lib.hid (And.intro k5 (And.intro k6 (And.intro k7 k8)))
  have HBY := Lib.hid (hbv x hx)
  have HNE := Lib.hid (And.intro hitp (And.intro hitk (And.intro hitn hsi)))
  have z0 : ((x.a : Int) != 0) = true := nz hx16
  have HXN0 : Hid (G nd (x.a + 2) = (x.val.length : Int) ∧ x.a = x.a ∧ x.a + 4 ≤ nd.length) := Lib.hid ⟨hxo.vl, rfl, hxe⟩
  clear hT hC hS hl hkl hck hV hbv hb hi hx hs0 hs1 hst hlim hsl hsi hitp hitk hitn hxo hxe hx16 k1 k2 k5 k6 k7 k8
  generalize hkl : x.key.length = kl at *
  generalize hvl : x.val.length = vl at *
  generalize hxa : x.a = xa at *
  have HL := Lib.hid (And.intro hkl (And.intro hvl hxa))
  clear hkl hvl hxa
  go_enter Tryz.func175, Tryz.ntmps175
  go_wp2
  refine wp_scope_ahead 0 rfl ?_
  go_upto_region 2 with (fail)
  refine still_all (by kernel_rfl) (by kernel_rfl) ?_
  intro W2 hW2
  have b0 := HSUM.out.1.1
  have HB2 := Lib.hid (drew_below hW2)
  have i2 := drew_cell hW2 i2
  have i4 := drew_cell hW2 i4
  have d9 := drew_cell hW2 d9
  have x0 := drew_cell hW2 x0
  have i3 := drew_cell hW2 i3
  have d8 := drew_cell hW2 d8
  have d0 := drew_cell hW2 d0
  have x1 := drew_cell hW2 x1
  have x2 := drew_cell hW2 x2
  clear hW2
  repeat still_step
  refine wpStill_nil ?_
  go_upto_region 3 with (fail)
  refine still_all (by kernel_rfl) (by kernel_rfl) ?_
  intro W3 hW3
  obtain ⟨_, b1, -, b2, -, b3, -, -, -, b4, -⟩ := HSUM.out.1
  have b5 := HSUM.out.2.2.2.1
  have HB3 := Lib.hid (below_then HB2.out HB2.out.size (drew_below hW3))
  have i2 := drew_cell hW3 i2
  have i4 := drew_cell hW3 i4
  have d9 := drew_cell hW3 d9
  have i3 := drew_cell hW3 i3
  have d8 := drew_cell hW3 d8
  have d0 := drew_cell hW3 d0
  have x1 := drew_cell hW3 x1
  have x2 := drew_cell hW3 x2
  clear hW3
  repeat still_step
  refine wpStill_nil ?_
  clear b0 b1 b2 b3 b4 b5
  have i6 := (HBK.out.below HB3.out).cell HI.out.c6
  have f6 := (HBK.out.below HB3.out).froz 6
  have hb4 := (HBK.out.below HB3.out).set 6 (.slice Ak kl ck')
  have hi4 := HI.out.s6 (.slice Ak kl ck')
  have hf4 := (Fr.of_below (S := fun k => k = it) HB3.out).setCell (p := ⟨it, 6, none⟩) (.inl rfl) (.slice Ak kl ck')
  have hq3 := pw_cell_below HB3.out HR.out.1
  have hq4 := pw_cell_below HB3.out HR.out.2.1
  have hs0 : (W3.setCell ⟨it, 6, none⟩ (.slice Ak kl ck')).cell? ⟨s, 0, none⟩ = some Sb := hf4.cell HR.out.1 HNE.out.2.2.2
  have hs1 : (W3.setCell ⟨it, 6, none⟩ (.slice Ak kl ck')).cell? ⟨s, 1, none⟩ = some Lb := hf4.cell HR.out.2.1 HNE.out.2.2.2
  have HB4 := Lib.hid hb4
  have HI4 := Lib.hid hi4
  have HF4 := Lib.hid hf4
  have HT4 := Lib.hid (HT.out.fr hf4 HNE.out.1 HNE.out.2.1 HNE.out.2.2.1)
  clear hb4 hi4 hf4 hq3 hq4 HT x1 x0 i3 i4 d0 d9 x2
  go_upto_region 5 with (fail)
  generalize W3.setCell ⟨it, 6, none⟩ (.slice Ak kl ck') = W4 at *
  clear i2 d8 i6 f6 HB2 HB3 k3
  have i3 := HB4.out.cell HI4.out.c3
  go_upto_if 60 with (fail)
  go_cut [] from 60 to 135 (fun wc => Hid (under f lim x.key = true ∧ Below W4.heap.size W4 wc))
  case first =>
    have hnn := fun (W : World) (a : Option Addr) (n c n' c' : Nat) => run_neq_slice_nil_any (P := Tryz.prog) W 25 5 a n c n' c' Tryz.underlying25
    have HW : ∀ d os, Hid (Below W4.heap.size W4 (grow (redrawn W4 d) os)) := fun d os => below_regrown W4 d os
    have I3 := cell_regrown i3
    have S1 := cell_regrown hs1
    cases lim with
    | none =>
      obtain rfl : Lb = .slice none 0 0 := HR.out.2.2.2.1
      go_upto_region 6 with (fail)
      refine wp_region_quiet_below (by kernel_rfl) (by kernel_rfl) ?_
      repeat (go_big_quiet_step (fail))
      refine wpQuiet_nil ?_
      intro _ hw'
      obtain ⟨⟨dq, osq⟩, hw''⟩ := hw'
      subst hw''
      have hbw := HW dq osq
      clear HW I3 S1 i3
      generalize grow (redrawn W4 dq) osq = W5 at *
      go_upto_region 7 with (fail)
      refine wp_region_quiet_below (by kernel_rfl) (by kernel_rfl) ?_
      repeat (go_big_quiet_step (fail))
      refine wpQuiet_nil ?_
      intro _ hw'
      obtain ⟨⟨dq2, osq2⟩, hw''⟩ := hw'
      subst hw''
      have hbw2 := below_regrown W5 dq2 osq2
      generalize grow (redrawn W5 dq2) osq2 = W6 at *
      go_wp2
      go_meet
      case rel => exact Lib.hid ⟨rfl, below_then hbw.out hbw.out.size hbw2⟩
    | some l =>
      obtain ⟨la, lc, rfl, hlc, hlb⟩ := HR.out.2.2.2.1
      have HLC := Lib.hid (HF4.out.C hlc (fun _ a ha => HR.out.2.2.2.2 l a lc rfl (by rw [ha])))
      have HLB := Lib.hid hlb
      clear hlc hlb
      obtain ⟨T, u, K, rfl, hnil, hmeth, hcall, hcmp⟩ := HV.out.make
      have HCMP := Lib.hid hcmp
      have d0 : W4.cell? ⟨p, 0, none⟩ = some (.iface T u) := (blk_cell HT4.out.cell 0).trans HC.out.c0
      have i2 := HB4.out.cell HI4.out.c2
      have i6 := HB4.out.cell HI4.out.c6
      have D0 := cell_regrown d0
      have I2 := cell_regrown i2
      have I6 := cell_regrown i6
      have HK : ∀ W, Below W4.heap.size W4 W → Hid (Kd.C (Kd.int .u8) W Ak kl x.key) := fun W hW => by
        have h := HY.out.2.2.1 W (ints_C (own_reads' (HT4.out.below hW).kv))
        rw [HL.out.1] at h
        exact Lib.hid h
      have HL2 : ∀ W, Below W4.heap.size W4 W → Hid (Kd.C (Kd.int .u8) W (some la) l.length l) := fun W hW => Lib.hid (Kd.C_below HLC.out hW)
      clear hcmp d0 i2 i6
      go_upto_region 6 with (fail)
      refine wp_region_quiet_below (by kernel_rfl) (by kernel_rfl) ?_
      repeat (go_big_quiet_step (with_reducible refine Calls.regrown_of (HCMP.out _ _ _ _ _ _ _ _ _ (HK _ (HW _ _).out).out (HL2 _ (HW _ _).out).out HBY.out.1 HLB.out)))
      refine wpQuiet_nil ?_
      intro _ hw'
      obtain ⟨⟨dq, osq⟩, hw''⟩ := hw'
      subst hw''
      have hbw := HW dq osq
      clear HW I3 S1 i3 D0 I2 I6 HK HL2 hnil hmeth hcall HCMP hs0 hs1
      generalize grow (redrawn W4 dq) osq = W5 at *
      by_cases hcv : 0 ≤ f x.key l
      · have z1 : decide (0 ≤ f x.key l) = true := decide_eq_true hcv
        have HCV := Lib.hid hcv
        have HB5 := Lib.hid (HB4.out.below hbw.out)
        have i4 := HB5.out.cell HI4.out.c4
        have f4 := HB5.out.froz 4
        have HB6 := Lib.hid (HB5.out.set 4 (.int .i64 0))
        have HI6 := Lib.hid (HI4.out.s4 0)
        have HF6 := Lib.hid ((HF4.out.then_ (Fr.of_below hbw.out (fun _ => False)) (fun k hk => hk.elim)).setCell (p := ⟨it, 4, none⟩) (.inl rfl) (.int .i64 0))
        clear HB5
        go_wp2
        go_step3
        simp only [Exit.then, Exit.inBlock, Exit.jump]
        refine ⟨rfl, ?_⟩
        generalize W5.setCell ⟨it, 4, none⟩ (.int .i64 0) = W6 at *
        have i6 := HB6.out.cell HI6.out.c6
        have f6 := HB6.out.froz 6
        have i7 := HB6.out.cell HI6.out.c7
        have f7 := HB6.out.froz 7
        have HB7 := Lib.hid ((HB6.out.set 6 nilS).set 7 nilS)
        have HI7 := Lib.hid ((HI6.out.s6 nilS).s7 nilS)
        have HF7 := Lib.hid ((HF6.out.setCell (p := ⟨it, 6, none⟩) (.inl rfl) nilS).setCell (p := ⟨it, 7, none⟩) (.inl rfl) nilS)
        clear HB6 HI6 HF6 i4 f4 hcv z1
        go_wp2
        rw [Exit.noGoto_ret]
        go_ret
        have e : under f (some l) x.key = false := decide_eq_false (by have := HCV.out; omega)
        rw [e]
        exact ⟨rfl, HF7.out, _, HB7.out, HI7.out⟩
      · have z1 : decide (0 ≤ f x.key l) = false := decide_eq_false hcv
        have HCV := Lib.hid hcv
        go_upto_region 7 with (fail)
        refine wp_region_quiet_below (by kernel_rfl) (by kernel_rfl) ?_
        repeat (go_big_quiet_step (fail))
        refine wpQuiet_nil ?_
        intro _ hw'
        obtain ⟨⟨dq2, osq2⟩, hw''⟩ := hw'
        subst hw''
        have hbw2 := below_regrown W5 dq2 osq2
        generalize grow (redrawn W5 dq2) osq2 = W6 at *
        go_wp2
        go_meet
        case rel => exact Lib.hid ⟨decide_eq_true (by have := HCV.out; omega), below_then hbw.out hbw.out.size hbw2⟩
  case rest =>
    have hw4 := hcut.out.2
    have HU := Lib.hid hcut.out.1
    have HB5 := Lib.hid (HB4.out.below hw4)
    have HT5 := Lib.hid (HT4.out.below hw4)
    have HF5 := Lib.hid (HF4.out.then_ (Fr.of_below hw4 (fun _ => False)) (fun k hk => hk.elim))
    clear hw4 hcut HB4 HT4 HF4 hs0 hs1 i3
    have i2 := HB5.out.cell HI4.out.c2
    have i4 := HB5.out.cell HI4.out.c4
    have i7 := HB5.out.cell HI4.out.c7
    have f7 := HB5.out.froz 7
    have d8 : wc.cell? ⟨p, 8, none⟩ = some (.slice Kx kv.length ck) := (blk_cell HT5.out.cell 8).trans HC.out.c8
    have d9 : wc.cell? ⟨p, 9, none⟩ = some (.slice (some ad) nd.length c) := (blk_cell HT5.out.cell 9).trans HC.out.c9
    have x2 : wc.cell? ⟨ad.block, ad.off + (xa + 2), none⟩ = some (.int .i64 (vl : Int)) := by
      obtain ⟨ad', hN, h⟩ := HT5.out.at' (i := xa + 2) (by have := HXN0.out.2.2; omega)
      injection hN with hN
      subst hN
      rw [HXN0.out.1] at h
      exact h
    obtain ⟨_, -, b1, -, b2, -, b3, -, -, -, b4⟩ := HSUM.out.1
    have b5 := HSUM.out.2.2.2.1
    have b6 := HSUM.out.2.2.2.2
    go_upto_region 9 with (fail)
    refine still_tail 28 (by kernel_rfl) (by kernel_rfl) ?_
    intro W7 hW7
    have HB7 := Lib.hid (HB5.out.below (drew_below hW7))
    have HF7 := Lib.hid (HF5.out.then_ (Fr.of_below (drew_below hW7) (fun _ => False)) (fun k hk => hk.elim))
    have i2 := drew_cell hW7 i2
    have i4 := drew_cell hW7 i4
    have i7 := drew_cell hW7 i7
    have d8 := drew_cell hW7 d8
    have d9 := drew_cell hW7 d9
    have x2 := drew_cell hW7 x2
    have f7 := HB7.out.froz 7
    clear hW7 HB5 HF5
    simp only [List.take_succ_cons, List.take_zero, List.drop_succ_cons, List.drop_zero]
    repeat still_step
    refine wpStill_nil ?_
    clear b1 b2 b3 b4 b5 b6 d8 d9 x2 i2 i4
    have HB8 := Lib.hid (HB7.out.set 7 (.slice Av vl cv'))
    have HI8 := Lib.hid (HI4.out.s7 (.slice Av vl cv'))
    have HF8 := Lib.hid (HF7.out.setCell (p := ⟨it, 7, none⟩) (.inl rfl) (.slice Av vl cv'))
    go_wp2
    simp only [Exit.jump]
    go_ret
    rw [HU.out, if_pos rfl]
    have e1 := HL.out.1
    have e2 := HL.out.2.1
    have e3 := HL.out.2.2
    subst e1 e2 e3
    exact ⟨rfl, HF8.out, _, HB8.out, Ak, ck', Av, cv', HI8.out, HY.out.1, HY.out.2.1, HY.out.2.2.1, HY.out.2.2.2⟩

set_option maxHeartbeats 3200000 in
set_option maxRecDepth 100000 in
theorem FillN_calls {w : World} {base p it r mh c ck : Nat} {cs ics : Array Value} {V k v : Value} {N Kx : Option Addr} {l0 l4 n sz : Int} {q : Nat → Int} {kv nd : List Int} {ns : List Node} {f : List Int → List Int → Int} {fw b1 b2 : Bool} {x : Node}
    (hT : Tab w base p cs (.slice Kx kv.length ck) (.slice N nd.length c) kv nd) (hC : Cs cs V r l0 l4 (.slice Kx kv.length ck) (.slice N nd.length c) q (mh : Int) n sz) (hS : Skip nd kv mh ns) (hl : nd.length ≤ 1099511627776) (hkl : kv.length ≤ 1099511627776) (hck : kv.length ≤ ck)
    (hV : Cmpr V f) (hbv : ∀ x ∈ ns, Byt x.key ∧ Byt x.val) (hb : Blk w it ics) (hi : Is ics p (.pointer none) (x.a : Int) fw k v) (hx : x ∈ ns)  (hitp : it ≠ p) (hitk : some it ≠ (Value.slice Kx kv.length ck).ownBlock) (hitn : some it ≠ (Value.slice N nd.length c).ownBlock) :
    Calls Tryz.prog 175 #[.pointer (some ⟨it, 0, none⟩), .bool b1, .bool b2] w fun e w' => FillTold w it p (.pointer none) fw kv Kx (some x) e w' := by
  have hxo := hS.ok x hx
  have hxe : x.a + 4 ≤ nd.length := by have := hxo.end_; omega
  have hx16 := hxo.a
  obtain ⟨o, Ak, Av, ck', cv', k1, k2, k3, k4, k5, k6, k7, k8⟩ := kv_cut (Kx := Kx) hxo hck
  obtain ⟨ad, hN, x0, x1, x2, _⟩ := node_reads hT hxo k1
  subst hN
  have d9 : w.cell? ⟨p, 9, none⟩ = some (.slice (some ad) nd.length c) := (blk_cell hT.cell 9).trans hC.c9
  have d8 : w.cell? ⟨p, 8, none⟩ = some (.slice Kx kv.length ck) := (blk_cell hT.cell 8).trans hC.c8
  have d0 : w.cell? ⟨p, 0, none⟩ = some V := (blk_cell hT.cell 0).trans hC.c0
  have i2 := hb.cell hi.c2
  have i3 := hb.cell hi.c3
  have i4 := hb.cell hi.c4
  have HT := Lib.hid hT
  have HC := Lib.hid hC
  have HBK := Lib.hid hb
  have HI := Lib.hid hi
  have HV := Lib.hid hV
  have HSUM := Lib.hid (And.intro (node_sums hxe hl) (kv_sums k2 hkl))
  have HY := Lib.hid (And.intro k5 (And.intro k6 (And.intro k7 k8)))
  have HBY := Lib.hid (hbv x hx)
  have HNE := Lib.hid (And.intro hitp (And.intro hitk hitn))
  have z0 : ((x.a : Int) != 0) = true := nz hx16
  have HXN0 : Hid (G nd (x.a + 2) = (x.val.length : Int) ∧ x.a = x.a ∧ x.a + 4 ≤ nd.length) := Lib.hid ⟨hxo.vl, rfl, hxe⟩
  clear hT hC hS hl hkl hck hV hbv hb hi hx hitp hitk hitn hxo hxe hx16 k1 k2 k5 k6 k7 k8
  generalize hkl : x.key.length = kl at *
  generalize hvl : x.val.length = vl at *
  generalize hxa : x.a = xa at *
  have HL := Lib.hid (And.intro hkl (And.intro hvl hxa))
  clear hkl hvl hxa
  go_enter Tryz.func175, Tryz.ntmps175
  go_wp2
  refine wp_scope_ahead 0 rfl ?_
  go_upto_region 2 with (fail)
  refine still_all (by kernel_rfl) (by kernel_rfl) ?_
  intro W2 hW2
  have b0 := HSUM.out.1.1
  have HB2 := Lib.hid (drew_below hW2)
  have i2 := drew_cell hW2 i2
  have i4 := drew_cell hW2 i4
  have d9 := drew_cell hW2 d9
  have x0 := drew_cell hW2 x0
  have i3 := drew_cell hW2 i3
  have d8 := drew_cell hW2 d8
  have d0 := drew_cell hW2 d0
  have x1 := drew_cell hW2 x1
  have x2 := drew_cell hW2 x2
  clear hW2
  repeat still_step
  refine wpStill_nil ?_
  go_upto_region 3 with (fail)
  refine still_all (by kernel_rfl) (by kernel_rfl) ?_
  intro W3 hW3
  obtain ⟨_, b1, -, b2, -, b3, -, -, -, b4, -⟩ := HSUM.out.1
  have b5 := HSUM.out.2.2.2.1
  have HB3 := Lib.hid (below_then HB2.out HB2.out.size (drew_below hW3))
  have i2 := drew_cell hW3 i2
  have i4 := drew_cell hW3 i4
  have d9 := drew_cell hW3 d9
  have i3 := drew_cell hW3 i3
  have d8 := drew_cell hW3 d8
  have d0 := drew_cell hW3 d0
  have x1 := drew_cell hW3 x1
  have x2 := drew_cell hW3 x2
  clear hW3
  repeat still_step
  refine wpStill_nil ?_
  clear b0 b1 b2 b3 b4 b5
  have i6 := (HBK.out.below HB3.out).cell HI.out.c6
  have f6 := (HBK.out.below HB3.out).froz 6
  have hb4 := (HBK.out.below HB3.out).set 6 (.slice Ak kl ck')
  have hi4 := HI.out.s6 (.slice Ak kl ck')
  have hf4 := (Fr.of_below (S := fun k => k = it) HB3.out).setCell (p := ⟨it, 6, none⟩) (.inl rfl) (.slice Ak kl ck')
  have HB4 := Lib.hid hb4
  have HI4 := Lib.hid hi4
  have HF4 := Lib.hid hf4
  have HT4 := Lib.hid (HT.out.fr hf4 HNE.out.1 HNE.out.2.1 HNE.out.2.2)
  clear hb4 hi4 hf4 HT x1 x0 i3 i4 d0 d9 x2
  go_upto_region 5 with (fail)
  generalize W3.setCell ⟨it, 6, none⟩ (.slice Ak kl ck') = W4 at *
  clear i2 d8 i6 f6 HB2 HB3 k3
  have i3 := HB4.out.cell HI4.out.c3
  have i2 := HB4.out.cell HI4.out.c2
  have i4 := HB4.out.cell HI4.out.c4
  have i7 := HB4.out.cell HI4.out.c7
  have f7 := HB4.out.froz 7
  have d8 : W4.cell? ⟨p, 8, none⟩ = some (.slice Kx kv.length ck) := (blk_cell HT4.out.cell 8).trans HC.out.c8
  have d9 : W4.cell? ⟨p, 9, none⟩ = some (.slice (some ad) nd.length c) := (blk_cell HT4.out.cell 9).trans HC.out.c9
  have x2 : W4.cell? ⟨ad.block, ad.off + (xa + 2), none⟩ = some (.int .i64 (vl : Int)) := by
    obtain ⟨ad', hN, h⟩ := HT4.out.at' (i := xa + 2) (by have := HXN0.out.2.2; omega)
    injection hN with hN
    subst hN
    rw [HXN0.out.1] at h
    exact h
  obtain ⟨_, -, b1, -, b2, -, b3, -, -, -, b4⟩ := HSUM.out.1
  have b5 := HSUM.out.2.2.2.1
  have b6 := HSUM.out.2.2.2.2
  go_upto_region 9 with (fail)
  refine still_tail 28 (by kernel_rfl) (by kernel_rfl) ?_
  intro W7 hW7
  have HB7 := Lib.hid (HB4.out.below (drew_below hW7))
  have HF7 := Lib.hid (HF4.out.then_ (Fr.of_below (drew_below hW7) (fun _ => False)) (fun k hk => hk.elim))
  have i2 := drew_cell hW7 i2
  have i4 := drew_cell hW7 i4
  have i7 := drew_cell hW7 i7
  have d8 := drew_cell hW7 d8
  have d9 := drew_cell hW7 d9
  have x2 := drew_cell hW7 x2
  have f7 := HB7.out.froz 7
  clear hW7 HB4 HF4
  simp only [List.take_succ_cons, List.take_zero, List.drop_succ_cons, List.drop_zero]
  repeat still_step
  refine wpStill_nil ?_
  clear b1 b2 b3 b4 b5 b6 d8 d9 x2 i2 i4
  have HB8 := Lib.hid (HB7.out.set 7 (.slice Av vl cv'))
  have HI8 := Lib.hid (HI4.out.s7 (.slice Av vl cv'))
  have HF8 := Lib.hid (HF7.out.setCell (p := ⟨it, 7, none⟩) (.inl rfl) (.slice Av vl cv'))
  go_wp2
  simp only [Exit.jump]
  go_ret
  have e1 := HL.out.1
  have e2 := HL.out.2.1
  have e3 := HL.out.2.2
  subst e1 e2 e3
  exact ⟨rfl, HF8.out, _, HB8.out, Ak, ck', Av, cv', HI8.out, HY.out.1, HY.out.2.1, HY.out.2.2.1, HY.out.2.2.2⟩

set_option maxHeartbeats 3200000 in
set_option maxRecDepth 100000 in
theorem FillS_calls {w : World} {base p it s r mh c ck : Nat} {cs ics : Array Value} {V k v Sb Lb : Value} {N Kx : Option Addr} {l0 l4 n sz : Int} {q : Nat → Int} {kv nd : List Int} {ns : List Node} {f : List Int → List Int → Int} {fw : Bool} {st lim : Option (List Int)} {x : Node}
    (hT : Tab w base p cs (.slice Kx kv.length ck) (.slice N nd.length c) kv nd) (hC : Cs cs V r l0 l4 (.slice Kx kv.length ck) (.slice N nd.length c) q (mh : Int) n sz) (hS : Skip nd kv mh ns) (hl : nd.length ≤ 1099511627776) (hkl : kv.length ≤ 1099511627776) (hck : kv.length ≤ ck)
    (hV : Cmpr V f) (hbv : ∀ x ∈ ns, Byt x.key ∧ Byt x.val) (hb : Blk w it ics) (hi : Is ics p (.pointer (some ⟨s, 0, none⟩)) (x.a : Int) fw k v) (hx : x ∈ ns) (hs0 : w.cell? ⟨s, 0, none⟩ = some Sb) (hs1 : w.cell? ⟨s, 1, none⟩ = some Lb) (hst : Bd w Sb st) (hlim : Bd w Lb lim) (hsi : s ≠ it) (hsl : ∀ l a c, st = some l → Sb = .slice (some a) l.length c → a.block ≠ it) (hitp : it ≠ p) (hitk : some it ≠ (Value.slice Kx kv.length ck).ownBlock) (hitn : some it ≠ (Value.slice N nd.length c).ownBlock) :
    Calls Tryz.prog 175 #[.pointer (some ⟨it, 0, none⟩), .bool true, .bool false] w fun e w' => FillTold w it p (.pointer (some ⟨s, 0, none⟩)) fw kv Kx (if over f st x.key then some x else none) e w' := by
  have hxo := hS.ok x hx
  have hxe : x.a + 4 ≤ nd.length := by have := hxo.end_; omega
  have hx16 := hxo.a
  obtain ⟨o, Ak, Av, ck', cv', k1, k2, k3, k4, k5, k6, k7, k8⟩ := kv_cut (Kx := Kx) hxo hck
  obtain ⟨ad, hN, x0, x1, x2, _⟩ := node_reads hT hxo k1
  subst hN
  have d9 : w.cell? ⟨p, 9, none⟩ = some (.slice (some ad) nd.length c) := (blk_cell hT.cell 9).trans hC.c9
  have d8 : w.cell? ⟨p, 8, none⟩ = some (.slice Kx kv.length ck) := (blk_cell hT.cell 8).trans hC.c8
  have d0 : w.cell? ⟨p, 0, none⟩ = some V := (blk_cell hT.cell 0).trans hC.c0
  have i2 := hb.cell hi.c2
  have i3 := hb.cell hi.c3
  have i4 := hb.cell hi.c4
  have HT := Lib.hid hT
  have HC := Lib.hid hC
  have HBK := Lib.hid hb
  have HI := Lib.hid hi
  have HV := Lib.hid hV
  have HR := Lib.hid (And.intro hs0 (And.intro hs1 (And.intro hst (And.intro hlim hsl))))
  have HSUM := Lib.hid (And.intro (node_sums hxe hl) (kv_sums k2 hkl))
  have HY := Lib.hid (And.intro k5 (And.intro k6 (And.intro k7 k8)))
  have HBY := Lib.hid (hbv x hx)
  have HNE := Lib.hid (And.intro hitp (And.intro hitk (And.intro hitn hsi)))
  have z0 : ((x.a : Int) != 0) = true := nz hx16
  have HXN0 : Hid (G nd (x.a + 2) = (x.val.length : Int) ∧ x.a = x.a ∧ x.a + 4 ≤ nd.length) := Lib.hid ⟨hxo.vl, rfl, hxe⟩
  clear hT hC hS hl hkl hck hV hbv hb hi hx hs0 hs1 hst hlim hsl hsi hitp hitk hitn hxo hxe hx16 k1 k2 k5 k6 k7 k8
  generalize hkl : x.key.length = kl at *
  generalize hvl : x.val.length = vl at *
  generalize hxa : x.a = xa at *
  have HL := Lib.hid (And.intro hkl (And.intro hvl hxa))
  clear hkl hvl hxa
  go_enter Tryz.func175, Tryz.ntmps175
  go_wp2
  refine wp_scope_ahead 0 rfl ?_
  go_upto_region 2 with (fail)
  refine still_all (by kernel_rfl) (by kernel_rfl) ?_
  intro W2 hW2
  have b0 := HSUM.out.1.1
  have HB2 := Lib.hid (drew_below hW2)
  have i2 := drew_cell hW2 i2
  have i4 := drew_cell hW2 i4
  have d9 := drew_cell hW2 d9
  have x0 := drew_cell hW2 x0
  have i3 := drew_cell hW2 i3
  have d8 := drew_cell hW2 d8
  have d0 := drew_cell hW2 d0
  have x1 := drew_cell hW2 x1
  have x2 := drew_cell hW2 x2
  clear hW2
  repeat still_step
  refine wpStill_nil ?_
  go_upto_region 3 with (fail)
  refine still_all (by kernel_rfl) (by kernel_rfl) ?_
  intro W3 hW3
  obtain ⟨_, b1, -, b2, -, b3, -, -, -, b4, -⟩ := HSUM.out.1
  have b5 := HSUM.out.2.2.2.1
  have HB3 := Lib.hid (below_then HB2.out HB2.out.size (drew_below hW3))
  have i2 := drew_cell hW3 i2
  have i4 := drew_cell hW3 i4
  have d9 := drew_cell hW3 d9
  have i3 := drew_cell hW3 i3
  have d8 := drew_cell hW3 d8
  have d0 := drew_cell hW3 d0
  have x1 := drew_cell hW3 x1
  have x2 := drew_cell hW3 x2
  clear hW3
  repeat still_step
  refine wpStill_nil ?_
  clear b0 b1 b2 b3 b4 b5
  have i6 := (HBK.out.below HB3.out).cell HI.out.c6
  have f6 := (HBK.out.below HB3.out).froz 6
  have hb4 := (HBK.out.below HB3.out).set 6 (.slice Ak kl ck')
  have hi4 := HI.out.s6 (.slice Ak kl ck')
  have hf4 := (Fr.of_below (S := fun k => k = it) HB3.out).setCell (p := ⟨it, 6, none⟩) (.inl rfl) (.slice Ak kl ck')
  have hq3 := pw_cell_below HB3.out HR.out.1
  have hq4 := pw_cell_below HB3.out HR.out.2.1
  have hs0 : (W3.setCell ⟨it, 6, none⟩ (.slice Ak kl ck')).cell? ⟨s, 0, none⟩ = some Sb := hf4.cell HR.out.1 HNE.out.2.2.2
  have hs1 : (W3.setCell ⟨it, 6, none⟩ (.slice Ak kl ck')).cell? ⟨s, 1, none⟩ = some Lb := hf4.cell HR.out.2.1 HNE.out.2.2.2
  have HB4 := Lib.hid hb4
  have HI4 := Lib.hid hi4
  have HF4 := Lib.hid hf4
  have HT4 := Lib.hid (HT.out.fr hf4 HNE.out.1 HNE.out.2.1 HNE.out.2.2.1)
  clear hb4 hi4 hf4 hq3 hq4 HT x1 x0 i3 i4 d0 d9 x2
  go_upto_region 5 with (fail)
  generalize W3.setCell ⟨it, 6, none⟩ (.slice Ak kl ck') = W4 at *
  clear i2 d8 i6 f6 HB2 HB3 k3
  have i3 := HB4.out.cell HI4.out.c3
  go_upto_if 60 with (fail)
  go_cut [] from 60 to 135 (fun wc => Hid (over f st x.key = true ∧ Below W4.heap.size W4 wc))
  case first =>
    have hnn := fun (W : World) (a : Option Addr) (n c n' c' : Nat) => run_neq_slice_nil_any (P := Tryz.prog) W 25 5 a n c n' c' Tryz.underlying25
    have HW : ∀ d os, Hid (Below W4.heap.size W4 (grow (redrawn W4 d) os)) := fun d os => below_regrown W4 d os
    have I3 := cell_regrown i3
    have S1 := cell_regrown hs1
    have S0 := cell_regrown hs0
    go_upto_region 6 with (fail)
    refine wp_region_quiet_below (by kernel_rfl) (by kernel_rfl) ?_
    repeat (go_big_quiet_step (fail))
    refine wpQuiet_nil ?_
    intro _ hw'
    obtain ⟨⟨dq, osq⟩, hw''⟩ := hw'
    subst hw''
    have HWB := HW dq osq
    clear HW I3 S1 S0
    have HBX := Lib.hid (HB4.out.below HWB.out)
    have HTX := Lib.hid (HT4.out.below HWB.out)
    have HFX := Lib.hid (HF4.out.then_ (Fr.of_below HWB.out (fun _ => False)) (fun k hk => hk.elim))
    have i3 := HBX.out.cell HI4.out.c3
    have hs0 := pw_cell_below HWB.out hs0
    clear HB4 HT4 HF4 hs1
    generalize grow (redrawn W4 dq) osq = WX at *
    have HW : ∀ d os, Hid (Below WX.heap.size WX (grow (redrawn WX d) os)) := fun d os => below_regrown WX d os
    have I3 := cell_regrown i3
    have S0 := cell_regrown hs0
    cases st with
    | none =>
      obtain rfl : Sb = .slice none 0 0 := HR.out.2.2.1
      go_upto_region 7 with (fail)
      refine wp_region_quiet_below (by kernel_rfl) (by kernel_rfl) ?_
      repeat (go_big_quiet_step (fail))
      refine wpQuiet_nil ?_
      intro _ hw'
      obtain ⟨⟨dq2, osq2⟩, hw''⟩ := hw'
      subst hw''
      have hbw := HW dq2 osq2
      clear HW I3 S0 i3
      generalize grow (redrawn WX dq2) osq2 = W5 at *
      go_wp2
      go_meet
      case rel => exact Lib.hid ⟨rfl, below_then HWB.out HWB.out.size hbw.out⟩
    | some l =>
      obtain ⟨la, lc, rfl, hlc, hlb⟩ := HR.out.2.2.1
      have HLC := Lib.hid (HFX.out.C hlc (fun _ a ha => HR.out.2.2.2.2 l a lc rfl (by rw [ha])))
      have HLB := Lib.hid hlb
      clear hlc hlb
      obtain ⟨T, u, K, rfl, hnil, hmeth, hcall, hcmp⟩ := HV.out.make
      have HCMP := Lib.hid hcmp
      have d0 : WX.cell? ⟨p, 0, none⟩ = some (.iface T u) := (blk_cell HTX.out.cell 0).trans HC.out.c0
      have i2 := HBX.out.cell HI4.out.c2
      have i6 := HBX.out.cell HI4.out.c6
      have D0 := cell_regrown d0
      have I2 := cell_regrown i2
      have I6 := cell_regrown i6
      have HK : ∀ W, Below WX.heap.size WX W → Hid (Kd.C (Kd.int .u8) W Ak kl x.key) := fun W hW => by
        have h := HY.out.2.2.1 W (ints_C (own_reads' (HTX.out.below hW).kv))
        rw [HL.out.1] at h
        exact Lib.hid h
      have HL2 : ∀ W, Below WX.heap.size WX W → Hid (Kd.C (Kd.int .u8) W (some la) l.length l) := fun W hW => Lib.hid (Kd.C_below HLC.out hW)
      clear hcmp d0 i2 i6
      go_upto_region 7 with (fail)
      refine wp_region_quiet_below (by kernel_rfl) (by kernel_rfl) ?_
      repeat (go_big_quiet_step (with_reducible refine Calls.regrown_of (HCMP.out _ _ _ _ _ _ _ _ _ (HK _ (HW _ _).out).out (HL2 _ (HW _ _).out).out HBY.out.1 HLB.out)))
      refine wpQuiet_nil ?_
      intro _ hw'
      obtain ⟨⟨dq2, osq2⟩, hw''⟩ := hw'
      subst hw''
      have hbw := HW dq2 osq2
      clear HW I3 S0 i3 D0 I2 I6 HK HL2 hnil hmeth hcall HCMP hs0
      generalize grow (redrawn WX dq2) osq2 = W5 at *
      by_cases hcv : f x.key l < 0
      · have z1 : decide (f x.key l < 0) = true := decide_eq_true hcv
        have HCV := Lib.hid hcv
        have HB5 := Lib.hid (HBX.out.below hbw.out)
        have i4 := HB5.out.cell HI4.out.c4
        have f4 := HB5.out.froz 4
        have HB6 := Lib.hid (HB5.out.set 4 (.int .i64 0))
        have HI6 := Lib.hid (HI4.out.s4 0)
        have HF6 := Lib.hid ((HFX.out.then_ (Fr.of_below hbw.out (fun _ => False)) (fun k hk => hk.elim)).setCell (p := ⟨it, 4, none⟩) (.inl rfl) (.int .i64 0))
        clear HB5
        go_wp2
        go_step3
        simp only [Exit.then, Exit.inBlock, Exit.jump]
        refine ⟨rfl, ?_⟩
        generalize W5.setCell ⟨it, 4, none⟩ (.int .i64 0) = W6 at *
        have i6 := HB6.out.cell HI6.out.c6
        have f6 := HB6.out.froz 6
        have i7 := HB6.out.cell HI6.out.c7
        have f7 := HB6.out.froz 7
        have HB7 := Lib.hid ((HB6.out.set 6 nilS).set 7 nilS)
        have HI7 := Lib.hid ((HI6.out.s6 nilS).s7 nilS)
        have HF7 := Lib.hid ((HF6.out.setCell (p := ⟨it, 6, none⟩) (.inl rfl) nilS).setCell (p := ⟨it, 7, none⟩) (.inl rfl) nilS)
        clear HB6 HI6 HF6 i4 f4 hcv z1
        go_wp2
        rw [Exit.noGoto_ret]
        go_ret
        have e : over f (some l) x.key = false := over_no HCV.out
        rw [e]
        exact ⟨rfl, HF7.out, _, HB7.out, HI7.out⟩
      · have z1 : decide (f x.key l < 0) = false := decide_eq_false hcv
        have HCV := Lib.hid hcv
        go_wp2
        go_meet
        case rel => exact Lib.hid ⟨over_yes (by have := HCV.out; omega), below_then HWB.out HWB.out.size hbw.out⟩
  case rest =>
    have hw4 := hcut.out.2
    have HU := Lib.hid hcut.out.1
    have HB5 := Lib.hid (HB4.out.below hw4)
    have HT5 := Lib.hid (HT4.out.below hw4)
    have HF5 := Lib.hid (HF4.out.then_ (Fr.of_below hw4 (fun _ => False)) (fun k hk => hk.elim))
    clear hw4 hcut HB4 HT4 HF4 hs0 hs1 i3
    have i2 := HB5.out.cell HI4.out.c2
    have i4 := HB5.out.cell HI4.out.c4
    have i7 := HB5.out.cell HI4.out.c7
    have f7 := HB5.out.froz 7
    have d8 : wc.cell? ⟨p, 8, none⟩ = some (.slice Kx kv.length ck) := (blk_cell HT5.out.cell 8).trans HC.out.c8
    have d9 : wc.cell? ⟨p, 9, none⟩ = some (.slice (some ad) nd.length c) := (blk_cell HT5.out.cell 9).trans HC.out.c9
    have x2 : wc.cell? ⟨ad.block, ad.off + (xa + 2), none⟩ = some (.int .i64 (vl : Int)) := by
      obtain ⟨ad', hN, h⟩ := HT5.out.at' (i := xa + 2) (by have := HXN0.out.2.2; omega)
      injection hN with hN
      subst hN
      rw [HXN0.out.1] at h
      exact h
    obtain ⟨_, -, b1, -, b2, -, b3, -, -, -, b4⟩ := HSUM.out.1
    have b5 := HSUM.out.2.2.2.1
    have b6 := HSUM.out.2.2.2.2
    go_upto_region 9 with (fail)
    refine still_tail 28 (by kernel_rfl) (by kernel_rfl) ?_
    intro W7 hW7
    have HB7 := Lib.hid (HB5.out.below (drew_below hW7))
    have HF7 := Lib.hid (HF5.out.then_ (Fr.of_below (drew_below hW7) (fun _ => False)) (fun k hk => hk.elim))
    have i2 := drew_cell hW7 i2
    have i4 := drew_cell hW7 i4
    have i7 := drew_cell hW7 i7
    have d8 := drew_cell hW7 d8
    have d9 := drew_cell hW7 d9
    have x2 := drew_cell hW7 x2
    have f7 := HB7.out.froz 7
    clear hW7 HB5 HF5
    simp only [List.take_succ_cons, List.take_zero, List.drop_succ_cons, List.drop_zero]
    repeat still_step
    refine wpStill_nil ?_
    clear b1 b2 b3 b4 b5 b6 d8 d9 x2 i2 i4
    have HB8 := Lib.hid (HB7.out.set 7 (.slice Av vl cv'))
    have HI8 := Lib.hid (HI4.out.s7 (.slice Av vl cv'))
    have HF8 := Lib.hid (HF7.out.setCell (p := ⟨it, 7, none⟩) (.inl rfl) (.slice Av vl cv'))
    go_wp2
    simp only [Exit.jump]
    go_ret
    rw [HU.out, if_pos rfl]
    have e1 := HL.out.1
    have e2 := HL.out.2.1
    have e3 := HL.out.2.2
    subst e1 e2 e3
    exact ⟨rfl, HF8.out, _, HB8.out, Ak, ck', Av, cv', HI8.out, HY.out.1, HY.out.2.1, HY.out.2.2.1, HY.out.2.2.2⟩

def Rg2 (w : World) (ok : Nat → Prop) (sv : Value) (st lim : Option (List Int)) : Prop :=
  (sv = .pointer none ∧ st = none ∧ lim = none) ∨ ∃ s Sb Lb, sv = .pointer (some ⟨s, 0, none⟩) ∧ ok s ∧ w.cell? ⟨s, 0, none⟩ = some Sb ∧ w.cell? ⟨s, 1, none⟩ = some Lb ∧ Bd w Sb st ∧ Bd w Lb lim ∧
    (∀ l a c, st = some l → Sb = .slice (some a) l.length c → ok a.block) ∧ (∀ l a c, lim = some l → Lb = .slice (some a) l.length c → ok a.block)

theorem Bd.keep {w w1 : World} {v : Value} {b : Option (List Int)} {ok : Nat → Prop} (h : Bd w v b) (ho : ∀ l a c, b = some l → v = .slice (some a) l.length c → ok a.block) (hk : ∀ k, ok k → k < w.heap.size → w1.heap[k]? = w.heap[k]?) : Bd w1 v b := by
  cases b with
  | none => exact h
  | some l =>
    obtain ⟨a, c, rfl, h2, h3⟩ := h
    refine ⟨a, c, rfl, ?_, h3⟩
    obtain ⟨g1, g2, g3⟩ := C_ints h2
    refine ints_C ⟨g1, g2, fun hp => ?_⟩
    obtain ⟨a', ha, hc⟩ := g3 hp
    injection ha with ha
    subst ha
    refine ⟨a, rfl, fun j hj => ?_⟩
    have hcj := hc j hj
    have hlt := World.block_lt_of_cell? w _ hcj
    rw [add_block] at hlt
    have hb := hk a.block (ho l a c rfl rfl) hlt
    unfold World.cell? at hcj ⊢
    rw [add_block] at hcj ⊢
    rw [hb]
    exact hcj

theorem Rg2.keep {w w1 : World} {ok : Nat → Prop} {sv : Value} {st lim : Option (List Int)} (h : Rg2 w ok sv st lim) (hk : ∀ k, ok k → k < w.heap.size → w1.heap[k]? = w.heap[k]?) : Rg2 w1 ok sv st lim := by
  rcases h with h | ⟨s, Sb, Lb, h1, h2, h3, h4, h5, h6, h7, h8⟩
  · exact .inl h
  · have hlt := World.block_lt_of_cell? w _ h3
    have hb := hk s h2 hlt
    refine .inr ⟨s, Sb, Lb, h1, h2, ?_, ?_, h5.keep h7 hk, h6.keep h8 hk, h7, h8⟩
    · unfold World.cell? at h3 ⊢
      rw [hb]
      exact h3
    · unfold World.cell? at h4 ⊢
      rw [hb]
      exact h4

def addr : Option Node → Nat
  | none => 0
  | some x => x.a

section
variable {w : World} {base p it r mh c ck : Nat} {cs ics : Array Value} {V sv k v : Value} {N Kx : Option Addr} {l0 l4 n sz : Int} {q : Nat → Int} {kv nd : List Int} {ns : List Node} {f : List Int → List Int → Int} {fw : Bool} {st lim : Option (List Int)} {o : Option Node}

theorem FillU_calls (hT : Tab w base p cs (.slice Kx kv.length ck) (.slice N nd.length c) kv nd) (hC : Cs cs V r l0 l4 (.slice Kx kv.length ck) (.slice N nd.length c) q (mh : Int) n sz) (hS : Skip nd kv mh ns) (hl : nd.length ≤ 1099511627776) (hkl : kv.length ≤ 1099511627776) (hck : kv.length ≤ ck)
    (hV : Cmpr V f) (hbv : ∀ x ∈ ns, Byt x.key ∧ Byt x.val) (hb : Blk w it ics) (hi : Is ics p sv ((addr o : Nat) : Int) fw k v) (ho : ∀ x, o = some x → x ∈ ns) (hr : Rg2 w (fun k => k ≠ it) sv st lim) (hitp : it ≠ p) (hitk : some it ≠ (Value.slice Kx kv.length ck).ownBlock) (hitn : some it ≠ (Value.slice N nd.length c).ownBlock) :
    Calls Tryz.prog 175 #[.pointer (some ⟨it, 0, none⟩), .bool false, .bool true] w fun e w' => FillTold w it p sv fw kv Kx (o.filter fun x => under f lim x.key) e w' := by
  cases o with
  | none => exact fill_zero hb hi
  | some x =>
    rcases hr with ⟨rfl, rfl, rfl⟩ | ⟨s, Sb, Lb, rfl, h2, h3, h4, h5, h6, h7, h8⟩
    · exact FillN_calls (f := f) (ns := ns) hT hC hS hl hkl hck hV hbv hb hi (ho x rfl) hitp hitk hitn
    · have h := FillL_calls hT hC hS hl hkl hck hV hbv hb hi (ho x rfl) h3 h4 h5 h6 h2 h8 hitp hitk hitn
      have e : (if under f lim x.key then some x else none) = (some x).filter fun x => under f lim x.key := by rw [Option.filter_some]
      rw [e] at h
      exact h

theorem FillO_calls (hT : Tab w base p cs (.slice Kx kv.length ck) (.slice N nd.length c) kv nd) (hC : Cs cs V r l0 l4 (.slice Kx kv.length ck) (.slice N nd.length c) q (mh : Int) n sz) (hS : Skip nd kv mh ns) (hl : nd.length ≤ 1099511627776) (hkl : kv.length ≤ 1099511627776) (hck : kv.length ≤ ck)
    (hV : Cmpr V f) (hbv : ∀ x ∈ ns, Byt x.key ∧ Byt x.val) (hb : Blk w it ics) (hi : Is ics p sv ((addr o : Nat) : Int) fw k v) (ho : ∀ x, o = some x → x ∈ ns) (hr : Rg2 w (fun k => k ≠ it) sv st lim) (hitp : it ≠ p) (hitk : some it ≠ (Value.slice Kx kv.length ck).ownBlock) (hitn : some it ≠ (Value.slice N nd.length c).ownBlock) :
    Calls Tryz.prog 175 #[.pointer (some ⟨it, 0, none⟩), .bool true, .bool false] w fun e w' => FillTold w it p sv fw kv Kx (o.filter fun x => over f st x.key) e w' := by
  cases o with
  | none => exact fill_zero hb hi
  | some x =>
    rcases hr with ⟨rfl, rfl, rfl⟩ | ⟨s, Sb, Lb, rfl, h2, h3, h4, h5, h6, h7, h8⟩
    · exact FillN_calls (f := f) (ns := ns) hT hC hS hl hkl hck hV hbv hb hi (ho x rfl) hitp hitk hitn
    · have h := FillS_calls hT hC hS hl hkl hck hV hbv hb hi (ho x rfl) h3 h4 h5 h6 h2 h7 hitp hitk hitn
      have e : (if over f st x.key then some x else none) = (some x).filter fun x => over f st x.key := by rw [Option.filter_some]
      rw [e] at h
      exact h
end

end Go.Proofs.YtdkkkikcigjlhaaGreatDoor.Md
