/- The memory table: a new one. The memory table as a sorted list: a new one; Put. The memory table's iterator: its cells; fill. -/
import Derived.Test.YtdkkkikcigjlhaaGreatDoorMj17
import Derived.WalkMore
import Derived.ScopeJumps
set_option linter.unusedVariables false
set_option linter.unusedSimpArgs false
namespace Go.Proofs.YtdkkkikcigjlhaaGreatDoor.Md
open Go.RowKit Go.Proofs.YtdkkkikcigjlhaaGreatDoor.Con Go.Proofs.YtdkkkikcigjlhaaGreatDoor.Run Go.Proofs.YtdkkkikcigjlhaaGreatDoorW.PrintWords Go.Proofs.YtdkkkikcigjlhaaGreatDoorW.PrintMore Go.Proofs.YtdkkkikcigjlhaaGreatDoor.Cmp Go.Sort Go.RwLone

set_option maxHeartbeats 1600000 in
theorem PCG_calls (a b : Int) (w : World) :
    Calls Tryz.prog 86 #[.int .u64 a, .int .u64 b] w fun e w' => e = .returned (.pointer (some ⟨w.heap.size, 0, none⟩)) ∧ w.alloc (.cells #[.int .u64 a, .int .u64 b] 230) = w' := by
  go_enter Tryz.func86, Tryz.ntmps86
  go_wp2
  go_ret
  exact ⟨rfl, rfl⟩

set_option maxHeartbeats 1600000 in
theorem randNew_calls (a : Addr) (w : World) :
    Calls Tryz.prog 85 #[.iface 172 (.pointer (some a))] w fun e w' => e = .returned (.pointer (some ⟨w.heap.size, 0, none⟩)) ∧ w.alloc (.cells #[.iface 172 (.pointer (some a))] 228) = w' := by
  go_enter Tryz.func85, Tryz.ntmps85
  go_wp2
  go_ret
  exact ⟨rfl, rfl⟩

def u8s16 : Array Value := Array.replicate 16 (.int .u8 0)
def i64s16 : Array Value := Array.replicate 16 (.int .i64 0)

theorem make_kv (W : World) : (Instr.makeSlice 25 (.int .i64 0) (.int .i64 16)).run Tryz.prog W = .ok (.slice (some ⟨W.heap.size, 0, none⟩) 0 16) (W.alloc (.cells u8s16 5)) := by kernel_rfl
theorem make_nd (W : World) : (Instr.makeSlice 174 (.int .i64 16) (.int .i64 16)).run Tryz.prog W = .ok (.slice (some ⟨W.heap.size, 0, none⟩) 16 16) (W.alloc (.cells i64s16 3)) := by kernel_rfl

def newCs (V : Value) (r gk gn : Nat) : Array Value :=
  #[V, .pointer (some ⟨r, 0, none⟩), .int .i32 0, .int .u32 0, .int .u32 0, .int .u32 0, .int .i32 0, .int .i32 0, .slice (some ⟨gk, 0, none⟩) 0 16, .slice (some ⟨gn, 0, none⟩) 16 16,
    .int .i64 0, .int .i64 0, .int .i64 0, .int .i64 0, .int .i64 0, .int .i64 0, .int .i64 0, .int .i64 0, .int .i64 0, .int .i64 0, .int .i64 0, .int .i64 0, .int .i64 1, .int .i64 0, .int .i64 0]

structure Five (w : World) (a b c d e : Obj) (W : World) : Prop where
  below : Below w.heap.size w W
  a : W.heap[w.heap.size]? = some a
  b : W.heap[w.heap.size + 1]? = some b
  c : W.heap[w.heap.size + 1 + 1]? = some c
  d : W.heap[w.heap.size + 1 + 1 + 1]? = some d
  e : W.heap[w.heap.size + 1 + 1 + 1 + 1]? = some e

theorem five (w : World) (a b c d e : Array Value) (ta tb tc td te : TypeId) : Five w (.cells a ta) (.cells b tb) (.cells c tc) (.cells d td) (.cells e te) ((((((w.alloc (.cells a ta)).alloc (.cells b tb)).alloc (.cells c tc)).alloc (.cells d td)).alloc (.cells e te)).drew) := by
  have h1 := below_alloc (Below.refl w.heap.size w) (.cells a ta)
  have h2 := h1.alloc h1.size (.cells b tb)
  have h3 := h2.alloc h2.size (.cells c tc)
  have h4 := h3.alloc h3.size (.cells d td)
  have h5 := h4.alloc h4.size (.cells e te)
  have n1 := blk_new w (.cells a ta)
  have n2 := blk_new (w.alloc (.cells a ta)) (.cells b tb)
  have n3 := blk_new ((w.alloc (.cells a ta)).alloc (.cells b tb)) (.cells c tc)
  have n4 := blk_new (((w.alloc (.cells a ta)).alloc (.cells b tb)).alloc (.cells c tc)) (.cells d td)
  have n5 := blk_new ((((w.alloc (.cells a ta)).alloc (.cells b tb)).alloc (.cells c tc)).alloc (.cells d td)) (.cells e te)
  simp only [World.size_alloc] at n2 n3 n4 n5
  have k : ∀ (W : World) (o : Obj) (i : Nat) (x : Obj), W.heap[i]? = some x → (W.alloc o).heap[i]? = some x := fun W o i x hx => ((below_alloc (Below.refl W.heap.size W) o).block i (blk_lt hx)).trans hx
  exact ⟨h5.drew, k _ _ _ _ (k _ _ _ _ (k _ _ _ _ (k _ _ _ _ n1))), k _ _ _ _ (k _ _ _ _ (k _ _ _ _ n2)), k _ _ _ _ (k _ _ _ _ n3), k _ _ _ _ n4, n5⟩

structure Laid (w : World) (V : Value) (p r gr gk gn : Nat) (W : World) : Prop where
  below : Below w.heap.size w W
  bp : W.heap[p]? = some (.cells (newCs V r gk gn) 188 (0, 0))
  br : W.heap[r]? = some (.cells #[.iface 172 (.pointer (some ⟨gr, 0, none⟩))] 228 (0, 0))
  bgr : ∃ a b : Int, W.heap[gr]? = some (.cells #[.int .u64 a, .int .u64 b] 230 (0, 0))
  bgk : W.heap[gk]? = some (.cells u8s16 5 (0, 0))
  bgn : W.heap[gn]? = some (.cells i64s16 3 (0, 0))
  at_ : w.heap.size ≤ p ∧ w.heap.size ≤ r ∧ w.heap.size ≤ gr ∧ w.heap.size ≤ gk ∧ w.heap.size ≤ gn

theorem laid_of {w W : World} {V v : Value} {a b c d e : Obj} (H : Five w a b c d e W) (k : Five w a b c d e W → ∃ p r gr gk gn : Nat, v = .pointer (some ⟨p, 0, none⟩) ∧ Hid (Laid w V p r gr gk gn W)) : ∃ p r gr gk gn : Nat, v = .pointer (some ⟨p, 0, none⟩) ∧ Hid (Laid w V p r gr gk gn W) := k H

set_option maxHeartbeats 1600000 in
set_option maxRecDepth 100000 in
theorem New_calls {w : World} {T : Nat} {V : Value} (hV : V = .iface T (.agg #[])) :
    Calls Tryz.prog 65 #[V, .int .i64 16] w fun e w' => ∃ p r gr gk gn W, e = .returned (.pointer (some ⟨p, 0, none⟩)) ∧ Laid w V p r gr gk gn W ∧ w' = W.setCell ⟨gn, 3, none⟩ (.int .i64 12) := by
  subst hV
  have m1 := make_kv
  have m2 := make_nd
  go_enter Tryz.func65, Tryz.ntmps65
  go_upto_region 1 with (fail)
  go_cut [5] (fun v5 wc => ∃ p r gr gk gn, v5 = .pointer (some ⟨p, 0, none⟩) ∧ Hid (Laid w (.iface T (.agg #[])) p r gr gk gn wc))
  case first =>
    go_region_law
      (first
      | (go_simp; go_at_call 86; (with_reducible refine (PCG_calls _ _ _).mono ?_); rintro e w' ⟨rfl, rfl⟩)
      | (go_simp; go_at_call 85; (with_reducible refine (randNew_calls _ _).mono ?_); rintro e w' ⟨rfl, rfl⟩))
    all_goals
      rename_i J K' hJ hK
      simp only [Exit.then]
      refine hK _ _ (Met.intro (hJ _ _ ?_))
      repeat apply Exists.intro
      refine ⟨?_, rfl⟩
      refine laid_of (five w _ _ _ _ _ _ _ _ _ _) (fun H => ?_)
      first
      | (refine ⟨_, _, w.heap.size, _, _, rfl, Lib.hid ⟨H.below, H.e, ?_, ⟨_, _, H.a⟩, ?_, ?_, ?_⟩⟩ <;> first | exact H.a | exact H.b | exact H.c | exact H.d | exact ⟨by omega, by omega, by omega, by omega, by omega⟩)
      | (refine ⟨_, _, w.heap.size + 1, _, _, rfl, Lib.hid ⟨H.below, H.e, ?_, ⟨_, _, H.b⟩, ?_, ?_, ?_⟩⟩ <;> first | exact H.a | exact H.b | exact H.c | exact H.d | exact ⟨by omega, by omega, by omega, by omega, by omega⟩)
      | (refine ⟨_, _, w.heap.size + 1 + 1, _, _, rfl, Lib.hid ⟨H.below, H.e, ?_, ⟨_, _, H.c⟩, ?_, ?_, ?_⟩⟩ <;> first | exact H.a | exact H.b | exact H.c | exact H.d | exact ⟨by omega, by omega, by omega, by omega, by omega⟩)
  case rest =>
    obtain ⟨p, r, gr, gk, gn, rfl, HL⟩ := hcut
    have c9 : wc.cell? ⟨p, 9, none⟩ = some (.slice (some ⟨gn, 0, none⟩) 16 16) := (blk_cell HL.out.bp 9).trans rfl
    have e3 : wc.cell? ⟨gn, 3, none⟩ = some (.int .i64 0) := (blk_cell HL.out.bgn 3).trans rfl
    have f3 := blk_frozen HL.out.bgn 3
    clear m1 m2
    go_wp2
    go_ret
    exact ⟨p, r, gr, gk, gn, _, rfl, HL.out, rfl⟩

structure MemD where
  cs : Array Value
  q : Nat → Int
  r : Nat
  gr : Nat
  Kx : Option Addr
  ck : Nat
  N : Option Addr
  c : Nat
  kv : List Int
  nd : List Int
  mh : Nat

def MemD.vk (D : MemD) : Value := .slice D.Kx D.kv.length D.ck
def MemD.vn (D : MemD) : Value := .slice D.N D.nd.length D.c
def MemD.own (D : MemD) (p k : Nat) : Prop := k = D.r ∨ foot p D.gr D.vk D.vn k

def weigh (ns : List Node) : Nat := (ns.map fun x => x.key.length + x.val.length).sum

structure Mem (D : MemD) (W : World) (base p : Nat) (V : Value) (f : List Int → List Int → Int) (ns : List Node) (kb nb : Nat) : Prop where
  T : Tab W base p D.cs D.vk D.vn D.kv D.nd
  C : Cs D.cs V D.r 0 0 D.vk D.vn D.q (D.mh : Int) (ns.length : Int) (weigh ns : Int)
  S : Skip D.nd D.kv D.mh ns
  R : Rnd W D.r D.gr
  cm : Cmpr V f
  sorted : Sorted f ns
  byt : ∀ x ∈ ns, Byt x.key ∧ Byt x.val
  cap : D.kv.length ≤ D.ck
  kvb : D.kv.length ≤ kb
  ndb : D.nd.length ≤ nb
  few : ns.length ≤ nb
  light : weigh ns ≤ kb
  far : ∀ k, D.own p k → base ≤ k

structure MemStep (w : World) (p : Nat) (D D' : MemD) (w' : World) : Prop where
  fr : Fr w w' (D.own p)
  own : ∀ k, D'.own p k → D.own p k ∨ w.heap.size ≤ k

theorem MemStep.refl (w : World) (p : Nat) (D : MemD) : MemStep w p D D w := ⟨Fr.refl _ _, fun k hk => .inl hk⟩
theorem MemStep.then_ {w w1 w2 : World} {p : Nat} {D D1 D2 : MemD} (h : MemStep w p D D1 w1) (g : MemStep w1 p D1 D2 w2) : MemStep w p D D2 w2 :=
  ⟨h.fr.then_ g.fr h.own, fun k hk => (g.own k hk).elim (h.own k) (fun q => .inr (Nat.le_trans h.fr.size q))⟩

section
variable {D : MemD} {W : World} {base p kb nb : Nat} {V : Value} {f : List Int → List Int → Int} {ns : List Node}

theorem Mem.keep {W1 : World} (h : Mem D W base p V f ns kb nb) (hk : ∀ k, D.own p k → W1.heap[k]? = W.heap[k]?) : Mem D W1 base p V f ns kb nb := by
  have o1 : ∀ {e : TypeId} {n : Nat} {v : Value} {xs : List Value}, W.ownsRow base e 1 v n xs → (∀ k, some k = v.ownBlock → D.own p k) → W1.ownsRow base e 1 v n xs := fun ho hs => own_move ho (fun k e => hk k (hs k e.symm))
  obtain ⟨a, ⟨hi, lo, b⟩, c⟩ := h.R
  exact ⟨⟨(hk p (.inr (.inl rfl))).trans h.T.cell, o1 h.T.kv (fun k e => .inr (.inr (.inr (.inl e)))), o1 h.T.nd (fun k e => .inr (.inr (.inr (.inr e)))), h.T.at_⟩, h.C, h.S,
    ⟨(hk _ (.inl rfl)).trans a, ⟨hi, lo, (hk _ (.inr (.inr (.inl rfl)))).trans b⟩, c⟩, h.cm, h.sorted, h.byt, h.cap, h.kvb, h.ndb, h.few, h.light, h.far⟩

theorem Mem.below {W1 : World} (h : Mem D W base p V f ns kb nb) (hb : Below W.heap.size W W1) : Mem D W1 base p V f ns kb nb := by
  have ha := h.T.away h.R
  refine ⟨h.T.below hb, h.C, h.S, h.R.kept (row := none) (grown_of_below hb none) (by simp) (by simp), h.cm, h.sorted, h.byt, h.cap, h.kvb, h.ndb, h.few, h.light, h.far⟩

theorem Mem.inside (h : Mem D W base p V f ns kb nb) : ∀ k, D.own p k → k < W.heap.size := by
  obtain ⟨a, ⟨hi, lo, b⟩, c⟩ := h.R
  intro k hk
  rcases hk with rfl | rfl | rfl | q | q
  · exact blk_lt a
  · exact blk_lt h.T.cell
  · exact blk_lt b
  · exact own_lt h.T.kv k q.symm
  · exact own_lt h.T.nd k q.symm

theorem Mem.more {kb' nb' : Nat} (h : Mem D W base p V f ns kb nb) (h1 : kb ≤ kb') (h2 : nb ≤ nb') : Mem D W base p V f ns kb' nb' :=
  ⟨h.T, h.C, h.S, h.R, h.cm, h.sorted, h.byt, h.cap, Nat.le_trans h.kvb h1, Nat.le_trans h.ndb h2, Nat.le_trans h.few h2, Nat.le_trans h.light h1, h.far⟩
end

theorem Mem.split {D : MemD} {W : World} {base p kb nb : Nat} {V : Value} {f : List Int → List Int → Int} {ns : List Node} (h : Mem D W base p V f ns kb nb) (key : List Int) : ∃ P R, ns = P ++ R ∧ (∀ x ∈ P, f x.key key < 0) ∧ (∀ x ∈ R, 0 ≤ f x.key key) ∧ Sorted f R := by
  obtain ⟨P, R, e, h1, h2⟩ := sorted_split h.cm.ord key ns h.sorted
  refine ⟨P, R, e, h1, h2, ?_⟩
  have := h.sorted
  rw [e] at this
  exact (List.pairwise_append.1 this).2.1

theorem weigh_app (a b : List Node) : weigh (a ++ b) = weigh a + weigh b := by simp [weigh]
theorem weigh_cons (x : Node) (b : List Node) : weigh (x :: b) = x.key.length + x.val.length + weigh b := by simp [weigh]

inductive PutNs (f : List Int → List Int → Int) (P R : List Node) (key val : List Int) : List Node → Prop
  | hit (x : Node) (R' : List Node) (hR : R = x :: R') (h0 : f x.key key = 0) : PutNs f P R key val (P ++ { x with val := val } :: R')
  | new (a h : Nat) (hm : ¬ ∃ x R', R = x :: R' ∧ f x.key key = 0) : PutNs f P R key val (P ++ ⟨a, h, key, val⟩ :: R)

theorem Ord.lt_of {f : List Int → List Int → Int} (h : Ord f) {a b c : List Int} (h1 : f a b < 0) (h2 : 0 ≤ f c b) : f a c < 0 := by
  rcases h.three c b with q | q | q
  · omega
  · rwa [← (h.zero _ _).1 q] at h1
  · have h3 : f b c < 0 := by rw [h.swap]; omega
    exact h.trans _ _ _ h1 h3

theorem PutNs.sorted {f : List Int → List Int → Int} (ho : Ord f) {P R ns' : List Node} {key val : List Int} (hs : Sorted f (P ++ R)) (hP : ∀ x ∈ P, f x.key key < 0) (hR : ∀ x ∈ R, 0 ≤ f x.key key) (h : PutNs f P R key val ns') : Sorted f ns' := by
  obtain ⟨h1, h2, h3⟩ := List.pairwise_append.1 hs
  cases h with
  | hit x R' e h0 =>
    subst e
    obtain ⟨h4, h5⟩ := List.pairwise_cons.1 h2
    refine List.pairwise_append.2 ⟨h1, List.pairwise_cons.2 ⟨fun y hy => h4 y hy, h5⟩, fun y hy z hz => ?_⟩
    rcases List.mem_cons.1 hz with rfl | hz
    · exact h3 y hy x List.mem_cons_self
    · exact h3 y hy z (List.mem_cons_of_mem _ hz)
  | new a hh hm =>
    refine List.pairwise_append.2 ⟨h1, List.pairwise_cons.2 ⟨fun y hy => ?_, h2⟩, fun y hy z hz => ?_⟩
    · have h4 := hR y hy
      have : f y.key key ≠ 0 := by
        intro q
        obtain ⟨R', e⟩ := hit_first ho h2 hR hy q
        exact hm ⟨y, R', e, q⟩
      show f key y.key < 0
      rw [ho.swap]
      omega
    · rcases List.mem_cons.1 hz with rfl | hz
      · exact hP y hy
      · exact h3 y hy z hz

theorem PutNs.byt {f : List Int → List Int → Int} {P R ns' : List Node} {key val : List Int} (hb : ∀ x ∈ P ++ R, Byt x.key ∧ Byt x.val) (hk : Byt key) (hv : Byt val) (h : PutNs f P R key val ns') : ∀ x ∈ ns', Byt x.key ∧ Byt x.val := by
  cases h with
  | hit x R' e h0 =>
    subst e
    intro y hy
    rcases List.mem_append.1 hy with hy | hy
    · exact hb y (List.mem_append_left _ hy)
    · rcases List.mem_cons.1 hy with rfl | hy
      · exact ⟨(hb x (by simp)).1, hv⟩
      · exact hb y (List.mem_append_right _ (List.mem_cons_of_mem _ hy))
  | new a hh hm =>
    intro y hy
    rcases List.mem_append.1 hy with hy | hy
    · exact hb y (List.mem_append_left _ hy)
    · rcases List.mem_cons.1 hy with rfl | hy
      · exact ⟨hk, hv⟩
      · exact hb y (List.mem_append_right _ hy)

set_option maxRecDepth 100000 in
theorem Mem.put {D : MemD} {w : World} {base p kb nb ca cb : Nat} {V : Value} {f : List Int → List Int → Int} {ns : List Node} {A0 B0 : Option Addr} {key val : List Int} (h : Mem D w base p V f ns kb nb)
    (hkb : kb + key.length + val.length ≤ 1099511627776) (hnb : nb + 16 ≤ 1099511627776)
    (hA : Kd.C (Kd.int .u8) w A0 key.length key) (hB : Kd.C (Kd.int .u8) w B0 val.length val) (hneA : 0 < key.length → ∀ a, A0 = some a → ¬ D.own p a.block) (hneB : 0 < val.length → ∀ a, B0 = some a → ¬ D.own p a.block) (hk : Byt key) (hv : Byt val) :
    Calls Tryz.prog 66 #[.pointer (some ⟨p, 0, none⟩), .slice A0 key.length ca, .slice B0 val.length cb] w fun e w' => e = .returned .nilIface ∧
      ∃ D' ns' P R, Mem D' w' base p V f ns' (kb + key.length + val.length) (nb + 16) ∧ MemStep w p D D' w' ∧ ns = P ++ R ∧ (∀ x ∈ P, f x.key key < 0) ∧ (∀ x ∈ R, 0 ≤ f x.key key) ∧ PutNs f P R key val ns' := by
  obtain ⟨P, R, e, hP, hR, hs⟩ := h.split key
  have h1 := h.kvb
  have h2 := h.ndb
  have h3 := h.light
  have h4 := h.few
  have hroom : Tab w base p D.cs D.vk D.vn D.kv D.nd := h.T
  -- what both ways leave
  have fin : ∀ (w' : World) (n sz : Int) (ns' : List Node), PutLeft w base p D.gr D.vk D.vn V D.r D.kv D.nd key val n sz ns' w' → n = (ns'.length : Int) → sz = (weigh ns' : Int) → PutNs f P R key val ns' → ns'.length ≤ nb + 16 → weigh ns' ≤ kb + key.length + val.length →
      ∃ D', Mem D' w' base p V f ns' (kb + key.length + val.length) (nb + 16) ∧ MemStep w p D D' w' := by
    intro w' n sz ns' hl hn hsz hp hfew hlight
    obtain ⟨hf, cs', q', Kx', ck', N', c', kv', nd', mh', t1, t2, t3, t4, t5, t6, t7, t8⟩ := hl
    subst hn hsz
    refine ⟨⟨cs', q', D.r, D.gr, Kx', ck', N', c', kv', nd', mh'⟩, ⟨t1, t2, t3, t4, h.cm, hp.sorted h.cm.ord (e ▸ h.sorted) hP hR, hp.byt (e ▸ h.byt) hk hv, t7, (show kv'.length ≤ _ by omega), (show nd'.length ≤ _ by omega), hfew, hlight, ?_⟩, ⟨hf.mono (fun k q => .inr q), ?_⟩⟩
    · intro k hk
      rcases hk with rfl | hk
      · exact h.far _ (.inl rfl)
      · rcases t8 k hk with q | q
        · exact h.far k (.inr q)
        · exact Nat.le_trans hroom.room q
    · intro k hk
      rcases hk with rfl | hk
      · exact .inl (.inl rfl)
      · rcases t8 k hk with q | q
        · exact .inl (.inr q)
        · exact .inr q
  by_cases hh : ∃ x R', R = x :: R' ∧ f x.key key = 0
  · refine (PutHit_calls (N := D.N) (c := D.c) (Kx := D.Kx) (ck := D.ck) (ca := ca) (cb := cb) h.T h.C h.S (by omega) (by omega) h.cap h.cm e hP hR hs hk (fun x hx => (h.byt x hx).1) hA hB (fun hp a ha q => hneA hp a ha (.inr q)) (fun hp a ha q => hneB hp a ha (.inr q)) h.R (by omega) (by omega) (by omega) hh).mono ?_
    rintro en w' ⟨rfl, x, R', hx, h0, hl⟩
    have hp : PutNs f P R key val _ := PutNs.hit x R' hx h0
    have hw : weigh (P ++ R) = weigh P + (x.key.length + x.val.length + weigh R') := by rw [hx, weigh_app, weigh_cons]
    have hkey : x.key = key := (h.cm.ord.zero _ _).1 h0
    rw [e] at h3 h4 hl
    have hw' : weigh (P ++ { x with val := val } :: R') = weigh P + (x.key.length + val.length + weigh R') := by rw [weigh_app, weigh_cons]
    have hlen : (P ++ { x with val := val } :: R').length = (P ++ R).length := by rw [hx]; simp
    obtain ⟨D', m1, m2⟩ := fin w' _ _ _ hl (by rw [hlen]) (by rw [hw, hw']; omega) hp (by rw [hlen]; omega) (by rw [hw'] ; omega)
    exact ⟨rfl, D', _, P, R, m1, m2, e, hP, hR, hp⟩
  · refine (PutNew_calls (N := D.N) (c := D.c) (Kx := D.Kx) (ck := D.ck) (ca := ca) (cb := cb) h.T h.C h.S (by omega) (by omega) h.cap h.cm e hP hR hs hk (fun x hx => (h.byt x hx).1) hA hB (fun hp a ha q => hneA hp a ha (.inr q)) (fun hp a ha q => hneB hp a ha (.inr q)) h.R (by omega) (by omega) (by omega) (by omega) hh).mono ?_
    rintro en w' ⟨rfl, hgt, hl⟩
    have hp : PutNs f P R key val _ := PutNs.new D.nd.length hgt hh
    rw [e] at h3 h4 hl
    have hw : weigh (P ++ R) = weigh P + weigh R := weigh_app _ _
    have hw' : weigh (P ++ ⟨D.nd.length, hgt, key, val⟩ :: R) = weigh P + (key.length + val.length + weigh R) := by rw [weigh_app, weigh_cons]
    have hlen : (P ++ (⟨D.nd.length, hgt, key, val⟩ : Node) :: R).length = (P ++ R).length + 1 := by simp; omega
    obtain ⟨D', m1, m2⟩ := fin w' _ _ _ hl (by rw [hlen]; simp) (by rw [hw, hw']; omega) hp (by rw [hlen]; omega) (by rw [hw']; omega)
    exact ⟨rfl, D', _, P, R, m1, m2, e, hP, hR, hp⟩

theorem own_block {W : World} {base g n cap : Nat} {e : TypeId} {cur : Array Value} (h : W.heap[g]? = some (.cells cur e (0, 0))) (hb : base ≤ g) (hn : n ≤ cap) (hc : cap ≤ 9223372036854775807) (hs : cur.size = cap) {xs : List Value} (hx : cur.toList.take n = xs) : W.ownsRow base e 1 (.slice (some ⟨g, 0, none⟩) n cap) n xs := by
  subst hx
  refine ⟨by rw [List.length_take, Array.length_toList]; omega, .inr ⟨g, cap, cur, rfl, hb, h, hn, hc, by omega, by simp⟩⟩

theorem newCs_Cs (V : Value) (r gk gn : Nat) : Cs (newCs V r gk gn) V r 0 0 (.slice (some ⟨gk, 0, none⟩) 0 16) (.slice (some ⟨gn, 0, none⟩) 16 16) (fun _ => 0) 1 0 0 :=
  ⟨rfl, rfl, rfl, rfl, rfl, rfl, rfl, rfl, rfl, fun i hi => match i, hi with | 0, _ => rfl | 1, _ => rfl | 2, _ => rfl | 3, _ => rfl | 4, _ => rfl | 5, _ => rfl | 6, _ => rfl | 7, _ => rfl | 8, _ => rfl | 9, _ => rfl | 10, _ => rfl | 11, _ => rfl, rfl, rfl, rfl⟩

theorem G_zeros (i : Nat) : G (List.replicate 16 (0 : Int)) i = 0 := by
  unfold G
  rw [List.getD_eq_getElem?_getD, List.getElem?_replicate]
  split <;> rfl

theorem Mem_new {w : World} {T : Nat} {V : Value} {f : List Int → List Int → Int} (hV : V = .iface T (.agg #[])) (hc : Cmpr V f) :
    Calls Tryz.prog 65 #[V, .int .i64 16] w fun e w' => ∃ p D, e = .returned (.pointer (some ⟨p, 0, none⟩)) ∧ Mem D w' w.heap.size p V f [] 0 16 ∧ Below w.heap.size w w' := by
  refine (New_calls hV).mono ?_
  rintro e w' ⟨p, r, gr, gk, gn, W, rfl, hl, rfl⟩
  obtain ⟨a, b, hgr⟩ := hl.bgr
  have hT : Tab W w.heap.size p (newCs V r gk gn) (.slice (some ⟨gk, 0, none⟩) 0 16) (.slice (some ⟨gn, 0, none⟩) 16 16) [] (List.replicate 16 0) :=
    ⟨hl.bp, own_block hl.bgk hl.at_.2.2.2.1 (by decide) (by decide) rfl rfl, own_block hl.bgn hl.at_.2.2.2.2 (by decide) (by decide) rfl rfl, hl.at_.1⟩
  have hR : Rnd W r gr := ⟨hl.br, ⟨a, b, hgr⟩, blk_type hl.br hgr (by decide)⟩
  have ha := hT.away hR
  have hT2 := Tab.setNd (nd := List.replicate 16 0) (g := gn) (c := 16) hT 3 12
  refine ⟨p, ⟨newCs V r gk gn, fun _ => 0, r, gr, some ⟨gk, 0, none⟩, 16, some ⟨gn, 0, none⟩, 16, [], (List.replicate 16 (0 : Int)).set 3 12, 1⟩, rfl, ⟨hT2, newCs_Cs V r gk gn, skip_new _ rfl (fun i hi => by rw [G_set_ne (Ne.symm hi)]; exact G_zeros i), hR.set (fun e => ha.rn (by rw [e]; rfl)) (fun e => ha.gn (by rw [e]; rfl)) _, hc, .nil, by simp, (show 0 ≤ 16 by decide), Nat.le_refl 0, (show 16 ≤ 16 by decide), Nat.zero_le _, Nat.le_refl 0, ?_⟩, ?_⟩
  · intro k hk
    rcases hk with rfl | rfl | rfl | q | q
    · exact hl.at_.2.1
    · exact hl.at_.1
    · exact hl.at_.2.2.1
    · injection q with q
      rw [q]
      exact hl.at_.2.2.2.1
    · injection q with q
      rw [q]
      exact hl.at_.2.2.2.2
  · exact hl.below.setCell (p := ⟨gn, 3, none⟩) hl.at_.2.2.2.2 _

end Go.Proofs.YtdkkkikcigjlhaaGreatDoor.Md

namespace Go.Proofs.YtdkkkikcigjlhaaGreatDoor.Md
open Go.RowKit Go.Proofs.YtdkkkikcigjlhaaGreatDoor.Con Go.Proofs.YtdkkkikcigjlhaaGreatDoor.Run Go.Proofs.YtdkkkikcigjlhaaGreatDoorW.PrintWords Go.Proofs.YtdkkkikcigjlhaaGreatDoorW.PrintMore Go.Proofs.YtdkkkikcigjlhaaGreatDoor.Cmp Go.Sort Go.RwLone

def nilS : Value := .slice none 0 0

structure Is (ics : Array Value) (p : Nat) (sv : Value) (a : Int) (fw : Bool) (k v : Value) : Prop where
  size : ics.size = 9
  c0 : ics[0]? = some .nilIface
  c1 : ics[1]? = some (.bool false)
  c2 : ics[2]? = some (.pointer (some ⟨p, 0, none⟩))
  c3 : ics[3]? = some sv
  c4 : ics[4]? = some (.int .i64 a)
  c5 : ics[5]? = some (.bool fw)
  c6 : ics[6]? = some k
  c7 : ics[7]? = some v
  c8 : ics[8]? = some .nilIface

section
variable {ics : Array Value} {p : Nat} {sv : Value} {a : Int} {fw : Bool} {k v : Value}
theorem Is.s4 (h : Is ics p sv a fw k v) (u : Int) : Is (ics.setIfInBounds 4 (.int .i64 u)) p sv u fw k v := by
  have hs := h.size
  exact ⟨by simpa using hs, (set_ne (by omega) _).trans h.c0, (set_ne (by omega) _).trans h.c1, (set_ne (by omega) _).trans h.c2, (set_ne (by omega) _).trans h.c3, set_eq (by omega) _, (set_ne (by omega) _).trans h.c5, (set_ne (by omega) _).trans h.c6, (set_ne (by omega) _).trans h.c7, (set_ne (by omega) _).trans h.c8⟩
theorem Is.s5 (h : Is ics p sv a fw k v) (u : Bool) : Is (ics.setIfInBounds 5 (.bool u)) p sv a u k v := by
  have hs := h.size
  exact ⟨by simpa using hs, (set_ne (by omega) _).trans h.c0, (set_ne (by omega) _).trans h.c1, (set_ne (by omega) _).trans h.c2, (set_ne (by omega) _).trans h.c3, (set_ne (by omega) _).trans h.c4, set_eq (by omega) _, (set_ne (by omega) _).trans h.c6, (set_ne (by omega) _).trans h.c7, (set_ne (by omega) _).trans h.c8⟩
theorem Is.s6 (h : Is ics p sv a fw k v) (u : Value) : Is (ics.setIfInBounds 6 u) p sv a fw u v := by
  have hs := h.size
  exact ⟨by simpa using hs, (set_ne (by omega) _).trans h.c0, (set_ne (by omega) _).trans h.c1, (set_ne (by omega) _).trans h.c2, (set_ne (by omega) _).trans h.c3, (set_ne (by omega) _).trans h.c4, (set_ne (by omega) _).trans h.c5, set_eq (by omega) _, (set_ne (by omega) _).trans h.c7, (set_ne (by omega) _).trans h.c8⟩
theorem Is.s7 (h : Is ics p sv a fw k v) (u : Value) : Is (ics.setIfInBounds 7 u) p sv a fw k u := by
  have hs := h.size
  exact ⟨by simpa using hs, (set_ne (by omega) _).trans h.c0, (set_ne (by omega) _).trans h.c1, (set_ne (by omega) _).trans h.c2, (set_ne (by omega) _).trans h.c3, (set_ne (by omega) _).trans h.c4, (set_ne (by omega) _).trans h.c5, (set_ne (by omega) _).trans h.c6, set_eq (by omega) _, (set_ne (by omega) _).trans h.c8⟩
end

def ItAt (kv : List Int) (Kx : Option Addr) (ics : Array Value) (p : Nat) (sv : Value) (fw : Bool) : Option Node → Prop
  | none => Is ics p sv 0 fw nilS nilS
  | some x => ∃ A c B d, Is ics p sv (x.a : Int) fw (.slice A x.key.length c) (.slice B x.val.length d) ∧ x.key.length ≤ c ∧ x.val.length ≤ d ∧ Cut kv Kx A x.key ∧ Cut kv Kx B x.val

def Blk (W : World) (it : Nat) (ics : Array Value) : Prop := W.heap[it]? = some (.cells ics 153 (0, 0))

theorem Blk.set {W : World} {it : Nat} {ics : Array Value} (h : Blk W it ics) (i : Nat) (u : Value) : Blk (W.setCell ⟨it, i, none⟩ u) it (ics.setIfInBounds i u) := blk_set h i u
theorem Blk.cell {W : World} {it i : Nat} {ics : Array Value} (h : Blk W it ics) {u : Value} (hu : ics[i]? = some u) : W.cell? ⟨it, i, none⟩ = some u := (blk_cell h i).trans hu
theorem Blk.froz {W : World} {it : Nat} {ics : Array Value} (h : Blk W it ics) (i : Nat) : W.frozen? ⟨it, i, none⟩ = false := blk_frozen h i
theorem Blk.below {W W1 : World} {it : Nat} {ics : Array Value} (h : Blk W it ics) (hb : Below W.heap.size W W1) : Blk W1 it ics := (hb.block it (blk_lt h)).trans h

def FillTold (w : World) (it p : Nat) (sv : Value) (fw : Bool) (kv : List Int) (Kx : Option Addr) (o : Option Node) (e : Ending) (w' : World) : Prop :=
  e = .returned (.bool o.isSome) ∧ Fr w w' (fun k => k = it) ∧ ∃ ics', Blk w' it ics' ∧ ItAt kv Kx ics' p sv fw o

set_option maxHeartbeats 1600000 in
set_option maxRecDepth 100000 in
theorem fill_zero {w : World} {it p : Nat} {ics : Array Value} {sv k v : Value} {fw b1 b2 : Bool} {kv : List Int} {Kx : Option Addr} (hb : Blk w it ics) (hi : Is ics p sv 0 fw k v) :
    Calls Tryz.prog 175 #[.pointer (some ⟨it, 0, none⟩), .bool b1, .bool b2] w fun e w' => FillTold w it p sv fw kv Kx none e w' := by
  have c4 := hb.cell hi.c4
  have c6 := hb.cell hi.c6
  have f6 := hb.froz 6
  have c7 := hb.cell hi.c7
  have f7 := hb.froz 7
  have HB := Lib.hid ((hb.set 6 nilS).set 7 nilS)
  have HI := Lib.hid ((hi.s6 nilS).s7 nilS)
  clear hb hi
  go_enter Tryz.func175, Tryz.ntmps175
  go_wp2
  go_step3
  go_wp2
  go_step3
  go_wp2
  rw [Exit.noGoto_ret]
  go_ret
  exact ⟨rfl, ((Fr.refl w (fun k => k = it)).setCell (p := ⟨it, 6, none⟩) (.inl rfl) nilS).setCell (p := ⟨it, 7, none⟩) (.inl rfl) nilS, _, HB.out, HI.out⟩

theorem wp_scope_ahead {P : Program} {a : Act} {w : World} {Q : Exit → Act → World → Prop} {c rest : Code} (l : Nat) (hf : findLabel c l = some rest)
    (h : c.wp P (Exit.jump l (fun a w => rest.wp P (Exit.noGoto Q) a w) Q) a w) : (Code.scope c).wp P Q a w :=
  wp_scope_jumps l (fun a w => rest.wp P (Exit.noGoto Q) a w) (fun _ _ => 0) hf h (fun a w hJ => Code.wp_mono (fun e a w hq => by
    cases e <;> first | exact hq | exact (hq : False).elim) hJ)

end Go.Proofs.YtdkkkikcigjlhaaGreatDoor.Md
