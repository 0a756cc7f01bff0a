/- An iterator as a cursor: what its methods tell; impl's move. -/
import Derived.Test.YtdkkkikcigjlhaaGreatDoorMj23
import Derived.Test.YtdkkkikcigjlhaaGreatDoorMj10
import Derived.Test.YtdkkkikcigjlhaaGreatDoorMj06
set_option linter.unusedVariables false
set_option linter.unusedSimpArgs false
namespace Go.Proofs.YtdkkkikcigjlhaaGreatDoor.Md
open Go.RowKit Go.Proofs.YtdkkkikcigjlhaaGreatDoor.Con Go.Proofs.YtdkkkikcigjlhaaGreatDoor.Run Go.Proofs.YtdkkkikcigjlhaaGreatDoorW.PrintWords Go.Proofs.YtdkkkikcigjlhaaGreatDoorW.PrintMore Go.Proofs.YtdkkkikcigjlhaaGreatDoor.Cmp Go.Sort Go.RwLone

def Mv (St : World → Int → (Nat → Prop) → Prop) (w : World) (F : Nat → Prop) (i : Int) (w' : World) : Prop := ∃ F', St w' i F' ∧ Fr w w' F ∧ ∀ k, F' k → F k ∨ w.heap.size ≤ k

structure Iter (f : List Int → List Int → Int) (T : Nat) (u : Value) (kF kL kN kP kS kV kE kK kU : Nat) (L : List KV) (St : World → Int → (Nat → Prop) → Prop) : Prop where
  n : ∀ m, m ∈ ["First", "Last", "Next", "Prev", "Seek", "Valid", "Error", "Key", "Value"] → ∀ w, (nilAhead 418 T u m).run Tryz.prog w = .ok (some false) w
  mF : ∀ w, (method 418 T u "First").run Tryz.prog w = .ok (kF, u) w
  mL : ∀ w, (method 418 T u "Last").run Tryz.prog w = .ok (kL, u) w
  mN : ∀ w, (method 418 T u "Next").run Tryz.prog w = .ok (kN, u) w
  mP : ∀ w, (method 418 T u "Prev").run Tryz.prog w = .ok (kP, u) w
  mS : ∀ w, (method 418 T u "Seek").run Tryz.prog w = .ok (kS, u) w
  mV : ∀ w, (method 418 T u "Valid").run Tryz.prog w = .ok (kV, u) w
  mE : ∀ w, (method 418 T u "Error").run Tryz.prog w = .ok (kE, u) w
  mK : ∀ w, (method 418 T u "Key").run Tryz.prog w = .ok (kK, u) w
  mU : ∀ w, (method 418 T u "Value").run Tryz.prog w = .ok (kU, u) w
  c : ∀ k, k ∈ [kF, kL, kN, kP, kS, kV, kE, kK, kU] → ∀ (args : Array Value) (w : World), (callFunc k args).run Tryz.prog w = .ok (.enter k args) w
  inside : ∀ w i F, St w i F → ∀ k, F k → k < w.heap.size
  keep : ∀ w w1 i F, St w i F → (∀ k, F k → w1.heap[k]? = w.heap[k]?) → w.heap.size ≤ w1.heap.size → St w1 i F
  first : ∀ w i F, St w i F → Calls Tryz.prog kF #[u] w fun e w' => ∃ b, e = .returned (.bool b) ∧ Hid (b = onL L 0) ∧ Hid (Mv St w F 0 w')
  last : ∀ w i F, St w i F → Calls Tryz.prog kL #[u] w fun e w' => ∃ b, e = .returned (.bool b) ∧ Hid (b = onL L ((L.length : Int) - 1)) ∧ Hid (Mv St w F ((L.length : Int) - 1) w')
  next : ∀ w i F, St w i F → Calls Tryz.prog kN #[u] w fun e w' => ∃ b, e = .returned (.bool b) ∧ Hid (b = onL L (mvL f L i 2 [])) ∧ Hid (Mv St w F (mvL f L i 2 []) w')
  prev : ∀ w i F, St w i F → Calls Tryz.prog kP #[u] w fun e w' => ∃ b, e = .returned (.bool b) ∧ Hid (b = onL L (mvL f L i 3 [])) ∧ Hid (Mv St w F (mvL f L i 3 []) w')
  seek : ∀ w i F, St w i F → ∀ (A : Option Addr) (c : Nat) (key : List Int), Kd.C (Kd.int .u8) w A key.length key → Byt key → (0 < key.length → ∀ a, A = some a → ¬ F a.block) →
    Calls Tryz.prog kS #[u, .slice A key.length c] w fun e w' => ∃ b, e = .returned (.bool b) ∧ Hid (b = onL L (findL f key L : Int)) ∧ Hid (Mv St w F (findL f key L : Int) w')
  valid : ∀ w i F, St w i F → Calls Tryz.prog kV #[u] w fun e w' => ∃ b, e = .returned (.bool b) ∧ Hid (b = onL L i) ∧ Hid (Mv St w F i w')
  error : ∀ w i F, St w i F → Calls Tryz.prog kE #[u] w fun e w' => e = .returned .nilIface ∧ Hid (Mv St w F i w')
  key : ∀ w i F, St w i F → Calls Tryz.prog kK #[u] w fun e w' => ∃ A c, e = .returned (.slice A (keyL L i).length c) ∧ Hid (Kd.C (Kd.int .u8) w' A (keyL L i).length (keyL L i)) ∧ Hid (Mv St w F i w')
  value : ∀ w i F, St w i F → Calls Tryz.prog kU #[u] w fun e w' => ∃ A c, e = .returned (.slice A (valL L i).length c) ∧ Hid (Kd.C (Kd.int .u8) w' A (valL L i).length (valL L i)) ∧ Hid (Mv St w F i w')

set_option maxHeartbeats 1600000 in
theorem errOf_nil (w : World) : Calls Tryz.prog 105 #[.nilIface] w fun e w' => e = .returned (.int .i64 0) ∧ w = w' := by
  go_enter Tryz.func105, Tryz.ntmps105
  go_wp2
  go_ret
  exact ⟨rfl, rfl⟩

structure MvS (St : World → Int → (Nat → Prop) → Prop) (w : World) (F : Nat → Prop) (W : World) (i : Int) (q : Nat → Prop) (F' : Nat → Prop) : Prop where
  st : St W i F'
  fr : Fr w W F
  own : ∀ k, F' k → F k ∨ w.heap.size ≤ k
  off : ∀ k, q k → ¬ F' k
  new : ∀ k, q k → w.heap.size ≤ k ∧ k < W.heap.size

section
variable {f : List Int → List Int → Int} {T : Nat} {u : Value} {kF kL kN kP kS kV kE kK kU : Nat} {L : List KV} {St : World → Int → (Nat → Prop) → Prop} {w W W1 : World} {F F' q : Nat → Prop} {i j : Int}

theorem MvS.call (h : MvS St w F W i q F') (m : Mv St W F' j W1) : ∃ F2, MvS St w F W1 j q F2 ∧ ∀ k, q k → W1.heap[k]? = W.heap[k]? := by
  obtain ⟨F2, m1, m2, m3⟩ := m
  refine ⟨F2, ⟨m1, h.fr.then_ m2 h.own, fun k hk => ?_, fun k hk hf => ?_, fun k hk => ⟨(h.new k hk).1, Nat.lt_of_lt_of_le (h.new k hk).2 m2.size⟩⟩, fun k hk => m2.block k (h.new k hk).2 (h.off k hk)⟩
  · rcases m3 k hk with q1 | q1
    · exact h.own k q1
    · exact .inr (Nat.le_trans h.fr.size q1)
  · rcases m3 k hf with q1 | q1
    · exact h.off k hk q1
    · have := (h.new k hk).2
      omega

theorem MvS.keepF (I : Iter f T u kF kL kN kP kS kV kE kK kU L St) (h : MvS St w F W i q F') (hk : ∀ k, F' k → W1.heap[k]? = W.heap[k]?) (hs : W.heap.size ≤ W1.heap.size) (hf : Fr w W1 F) : MvS St w F W1 i q F' :=
  ⟨I.keep _ _ _ _ h.st hk hs, hf, h.own, h.off, fun k hk => ⟨(h.new k hk).1, Nat.lt_of_lt_of_le (h.new k hk).2 hs⟩⟩

theorem MvS.set (I : Iter f T u kF kL kN kP kS kV kE kK kU L St) (h : MvS St w F W i q F') {a : Addr} (ha : q a.block) (v : Value) : MvS St w F (W.setCell a v) i q F' :=
  h.keepF I (fun k hk => Below.heap_setCell _ _ _ k (fun e => h.off a.block ha (e ▸ hk))) (by simp) (h.fr.setCell (.inr (h.new _ ha).1) v)

theorem MvS.below (I : Iter f T u kF kL kN kP kS kV kE kK kU L St) (h : MvS St w F W i q F') (hb : Below W.heap.size W W1) : MvS St w F W1 i q F' :=
  h.keepF I (fun k hk => hb.block k (I.inside _ _ _ h.st k hk)) hb.size (h.fr.then_ (Fr.of_below hb (fun _ => False)) (fun k hk => hk.elim))

theorem MvS.grown (I : Iter f T u kF kL kN kP kS kV kE kK kU L St) (h : MvS St w F W i q F') {row : Option Nat} (hg : W.grownBy W1 row) (hr : ∀ k, row = some k → ¬ F' k ∧ w.heap.size ≤ k) : MvS St w F W1 i q F' :=
  h.keepF I (fun k hk => hg.block k (I.inside _ _ _ h.st k hk) (fun e => (hr k e.symm).1 hk)) hg.size (h.fr.then_ (Fr.of_grown (S := fun k => row = some k) hg (fun k e => e)) (fun k hk => .inr (hr k hk).2))

theorem MvS.more {q2 : Nat → Prop} (h : MvS St w F W i q F') (h1 : ∀ k, q2 k → q k ∨ (w.heap.size ≤ k ∧ k < W.heap.size ∧ ¬ F' k)) : MvS St w F W i q2 F' :=
  ⟨h.st, h.fr, h.own, fun k hk => (h1 k hk).elim (h.off k) (fun x => x.2.2), fun k hk => (h1 k hk).elim (h.new k) (fun x => ⟨x.1, x.2.1⟩)⟩
end

def atCells (a b : Bool) (x y : Value) (e : Int) : Array Value := #[.bool a, .bool b, x, y, .int .i64 e]

structure Three (w : World) (a b c : Obj) (W : World) : Prop where
  below : Below w.heap.size w W
  a : W.heap[w.heap.size]? = some a
  b : W.heap[w.heap.size + 1]? = some b
  c : W.heap[w.heap.size + 1 + 1]? = some c

theorem three (w : World) (a b c : Array Value) (ta tb tc : TypeId) : Three w (.cells a ta) (.cells b tb) (.cells c tc) (((w.alloc (.cells a ta)).alloc (.cells b tb)).alloc (.cells c tc)) := by
  have h1 := below_alloc (Below.refl w.heap.size w) (.cells a ta)
  have h2 := h1.alloc h1.size (.cells b tb)
  have h3 := h2.alloc h2.size (.cells c tc)
  have n1 := blk_new w (.cells a ta)
  have n2 := blk_new (w.alloc (.cells a ta)) (.cells b tb)
  have n3 := blk_new ((w.alloc (.cells a ta)).alloc (.cells b tb)) (.cells c tc)
  simp only [World.size_alloc] at n2 n3
  have k : ∀ (W : World) (o : Obj) (i : Nat) (x : Obj), W.heap[i]? = some x → (W.alloc o).heap[i]? = some x := fun W o i x hx => ((below_alloc (Below.refl W.heap.size W) o).block i (blk_lt hx)).trans hx
  exact ⟨h3, k _ _ _ _ (k _ _ _ _ n1), k _ _ _ _ n2, n3⟩

def q3 (n k : Nat) : Prop := k = n ∨ k = n + 1 ∨ k = n + 1 + 1

theorem key_room {L : List KV} (i : Int) (h : ∀ x ∈ L, x.1.length ≤ 4294967296 ∧ x.2.length ≤ 4294967296) : (keyL L i).length ≤ 4294967296 ∧ (valL L i).length ≤ 4294967296 := by
  unfold keyL valL
  by_cases q : onL L i = true
  · rw [if_pos q, if_pos q]
    unfold onL at q
    simp only [Bool.and_eq_true, decide_eq_true_eq] at q
    have hlt : i.toNat < L.length := by omega
    have hm : L.getD i.toNat ([], []) ∈ L := by
      rw [List.getD_eq_getElem?_getD, List.getElem?_eq_getElem hlt]
      exact List.getElem_mem hlt
    exact h _ hm
  · rw [if_neg q, if_neg q]
    exact ⟨Nat.zero_le _, Nat.zero_le _⟩

theorem own_empty {W : World} {base g : Nat} {e : TypeId} (h : W.heap[g]? = some (.cells #[] e (0, 0))) (hb : base ≤ g) : W.ownsRow base e 1 (.slice (some ⟨g, 0, none⟩) 0 0) ([] : List Int).length (nums .u8 []) :=
  ⟨by simp [nums], Or.inr ⟨g, 0, #[], rfl, hb, h, Nat.le_refl _, by decide, by simp, by simp [nums]⟩⟩

theorem MvS.copied {f : List Int → List Int → Int} {T : Nat} {u : Value} {kF kL kN kP kS kV kE kK kU : Nat} {L : List KV} {St : World → Int → (Nat → Prop) → Prop} {w W W1 : World} {F F' q : Nat → Prop} {i : Int} (I : Iter f T u kF kL kN kP kS kV kE kK kU L St)
    (h : MvS St w F W i q F') {g : Nat} (hq : q g) {l : List Int} {v : Value} {base : Nat} (ho : W1.ownsRow base 5 1 v l.length (nums .u8 l)) (hg : W.grownBy W1 (some g)) (hat : v.ownBlock = some g ∨ ∃ b, v.ownBlock = some b ∧ W.heap.size ≤ b) :
    ∃ b, v.ownBlock = some b ∧ (b = g ∨ W.heap.size ≤ b) ∧ b < W1.heap.size ∧ MvS St w F W1 i (fun k => q k ∨ k = b) F' := by
  have hm := h.grown I hg (fun k hk => by injection hk with hk; subst hk; exact ⟨h.off _ hq, (h.new _ hq).1⟩)
  have fin : ∀ b, v.ownBlock = some b → (b = g ∨ W.heap.size ≤ b) → b < W1.heap.size ∧ MvS St w F W1 i (fun k => q k ∨ k = b) F' := by
    intro b hb hbg
    have hlt := own_lt ho b hb
    refine ⟨hlt, hm.more (fun k hk => ?_)⟩
    rcases hk with hk | rfl
    · exact .inl hk
    · rcases hbg with rfl | hle
      · exact .inl hq
      · exact .inr ⟨Nat.le_trans h.fr.size hle, hlt, fun q => by have := I.inside _ _ _ h.st _ q; omega⟩
  rcases hat with e | ⟨b, e, hle⟩
  · exact ⟨g, e, .inl rfl, fin g e (.inl rfl)⟩
  · exact ⟨b, e, .inr hle, fin b e (.inr hle)⟩

structure SwTold (St : World → Int → (Nat → Prop) → Prop) (L : List KV) (w : World) (F : Nat → Prop) (j : Int) (wc : World) : Prop where
  ex : ∃ F1, MvS St w F wc j (q3 w.heap.size) F1
  hc : wc.heap[w.heap.size + 1 + 1]? = some (.cells (atCells (onL L j) false (.slice none 0 0) (.slice none 0 0) 0) 121 (0, 0))
  hb : wc.heap[w.heap.size + 1]? = some (.cells (atCells false false (.slice none 0 0) (.slice none 0 0) 0) 121 (0, 0))

def MoveTold (St : World → Int → (Nat → Prop) → Prop) (L : List KV) (w : World) (F : Nat → Prop) (j : Int) (e : Ending) (w' : World) : Prop :=
  ∃ A c B d F' q, e = .returned (.agg #[.bool (onL L j), .bool (onL L j), .slice A (keyL L j).length c, .slice B (valL L j).length d, .int .i64 0]) ∧
    w'.ownsRow w.heap.size 5 1 (.slice A (keyL L j).length c) (keyL L j).length (nums .u8 (keyL L j)) ∧ w'.ownsRow w.heap.size 5 1 (.slice B (valL L j).length d) (valL L j).length (nums .u8 (valL L j)) ∧
    MvS St w F w' j q F' ∧ (∀ k, (Value.slice A (keyL L j).length c).ownBlock = some k → q k) ∧ ∀ k, (Value.slice B (valL L j).length d).ownBlock = some k → q k

theorem cut_tail {P : Program} {c : Code} {Q : Exit → Act → World → Prop} {a : Act} {w : World} (R : Act → World → Prop) (h1 : c.wp P (fun e a w => e = .normal ∧ R a w) a w) (h2 : ∀ a w, R a w → Q .normal a w) : c.wp P Q a w :=
  Code.wp_mono (fun e a w h => by obtain ⟨rfl, hr⟩ := h; exact h2 a w hr) h1

set_option maxHeartbeats 6400000 in
set_option maxRecDepth 100000 in
theorem move_calls {f : List Int → List Int → Int} {T : Nat} {u : Value} {kF kL kN kP kS kV kE kK kU : Nat} {L : List KV} {St : World → Int → (Nat → Prop) → Prop} (I : Iter f T u kF kL kN kP kS kV kE kK kU L St) {w : World} {i d : Int} {F : Nat → Prop} {A0 : Option Addr} {ca : Nat} {key : List Int}
    (h : St w i F) (hA : Kd.C (Kd.int .u8) w A0 key.length key) (hk : Byt key) (hne : 0 < key.length → ∀ a, A0 = some a → ¬ F a.block) (hL : ∀ x ∈ L, x.1.length ≤ 4294967296 ∧ x.2.length ≤ 4294967296) :
    Calls Tryz.prog 84 #[.iface T u, .agg #[.int .i64 d, .slice A0 key.length ca]] w fun e w' => MoveTold St L w F (mvL f L i d key) e w' := by
  have HI := Lib.hid I
  have HA := Lib.hid (And.intro hA (And.intro hk hne))
  have HS := Lib.hid h
  have hin := Lib.hid (I.inside w i F h)
  have H3 := Lib.hid (three w #[.int .i64 d, .slice A0 key.length ca] (atCells false false (.slice none 0 0) (.slice none 0 0) 0) (atCells false false (.slice none 0 0) (.slice none 0 0) 0) 104 121 121)
  have HM0 := Lib.hid (show MvS St w F w i (fun _ => False) F from ⟨h, Fr.refl _ _, fun k hk => .inl hk, fun k hk => hk.elim, fun k hk => hk.elim⟩)
  clear I hA hk hne h
  go_enter Tryz.func84, Tryz.ntmps84
  go_upto_region 2 with (fail)
  have HM := Lib.hid (show MvS St w F _ i (q3 w.heap.size) F from (HM0.out.below HI.out H3.out.below).more (fun k hk => .inr (by
    have h1 := H3.out
    have h2 := blk_lt h1.a
    have h3 := blk_lt h1.b
    have h4 := blk_lt h1.c
    have h5 := hin.out k
    rcases hk with rfl | rfl | rfl
    · exact ⟨Nat.le_refl _, h2, fun q => by have := h5 q; omega⟩
    · exact ⟨by omega, h3, fun q => by have := h5 q; omega⟩
    · exact ⟨by omega, h4, fun q => by have := h5 q; omega⟩)))
  have ha := H3.out.a
  have hb := H3.out.b
  have hc := H3.out.c
  have HA2 := Lib.hid (Kd.C_below HA.out.1 H3.out.below)
  simp only [atCells] at hc hb ha HM HA2
  clear HM0 H3 HS
  generalize hW : ((w.alloc (Obj.cells #[Value.int IntKind.i64 d, Value.slice A0 key.length ca] 104)).alloc (Obj.cells #[Value.bool false, Value.bool false, Value.slice none 0 0, Value.slice none 0 0, Value.int IntKind.i64 0] 121)).alloc (Obj.cells #[Value.bool false, Value.bool false, Value.slice none 0 0, Value.slice none 0 0, Value.int IntKind.i64 0] 121) = W at *
  clear hW
  have a0 := (blk_cell ha 0).trans rfl
  have a1 := (blk_cell ha 1).trans rfl
  go_upto_if 14 with (fail)
  refine cut_tail (fun (a' : Act) (wc : World) => (∃ u9 u10 u11 u12 u13 u14 u15 u16 u17 u18 u19 u20 u21 u22 u23 u24 u25 u26 u27 u28 u29 u30 u31 u32 u33 : Value, a' = { tmps := #[.iface T u, .agg #[.int .i64 d, .slice A0 key.length ca], undef, .pointer (some ⟨w.heap.size, 0, none⟩), .pointer (some ⟨w.heap.size + 1, 0, none⟩), .pointer (some ⟨w.heap.size + 1 + 1, 0, none⟩), .agg #[.bool false, .bool false, .slice none 0 0, .slice none 0 0, .int .i64 0], .pointer (some ⟨w.heap.size, 0, none⟩), .int .i64 d, u9, u10, u11, u12, u13, u14, u15, u16, u17, u18, u19, u20, u21, u22, u23, u24, u25, u26, u27, u28, u29, u30, u31, u32, u33, undef, undef, undef, undef, undef, undef, undef, undef, undef, undef, undef, undef, undef, undef, undef, undef, undef, undef], defers := [] }) ∧ SwTold St L w F (mvL f L i d key) wc) ?_ ?_
  · skip
    by_cases d0 : d = 0
    · have he : mvL f L i d key = 0 := by unfold mvL; rw [if_pos d0]
      have y0 : (d == 0) = true := by rw [beq_iff_eq]; exact d0
      have HDD := Lib.hid d0
      clear d0
      have hn := HI.out.n "First" (by simp)
      have hm := HI.out.mF
      have hc2 := HI.out.c kF (by simp)
      have HC := Lib.hid (HI.out.first W i F HM.out.st)
      go_wp2_with ((with_reducible refine HC.out.mono ?_); rintro e w1 ⟨bb, rfl, hbb, hmv⟩; obtain ⟨F1, hms, hk1⟩ := HM.out.call hmv.out; have hc1 := (hk1 (w.heap.size + 1 + 1) (.inr (.inr rfl))).trans hc; have hb1 := (hk1 (w.heap.size + 1) (.inr (.inl rfl))).trans hb; have s0 := (blk_cell hc1 0).trans rfl; have t0 := blk_frozen hc1 0)
      refine ⟨⟨F1, hms.set HI.out (a := ⟨w.heap.size + 1 + 1, 0, none⟩) (.inr (.inr rfl)) _⟩, ?_, ?_⟩
      · rw [← hbb.out]
        exact blk_set hc1 0 (.bool bb)
      · exact (Below.heap_setCell _ _ _ _ (by simp)).trans hb1
    · have y0 : (d == 0) = false := by rw [beq_eq_false_iff_ne]; exact d0
      by_cases d1 : d = 1
      · have he : mvL f L i d key = (L.length : Int) - 1 := by unfold mvL; rw [if_neg d0, if_pos d1]
        have y1 : (d == 1) = true := by rw [beq_iff_eq]; exact d1
        have HDD := Lib.hid d1
        clear d1
        have hn := HI.out.n "Last" (by simp)
        have hm := HI.out.mL
        have hc2 := HI.out.c kL (by simp)
        have HC := Lib.hid (HI.out.last W i F HM.out.st)
        go_wp2_with ((with_reducible refine HC.out.mono ?_); rintro e w1 ⟨bb, rfl, hbb, hmv⟩; obtain ⟨F1, hms, hk1⟩ := HM.out.call hmv.out; have hc1 := (hk1 (w.heap.size + 1 + 1) (.inr (.inr rfl))).trans hc; have hb1 := (hk1 (w.heap.size + 1) (.inr (.inl rfl))).trans hb; have s0 := (blk_cell hc1 0).trans rfl; have t0 := blk_frozen hc1 0)
        refine ⟨⟨F1, hms.set HI.out (a := ⟨w.heap.size + 1 + 1, 0, none⟩) (.inr (.inr rfl)) _⟩, ?_, ?_⟩
        · rw [← hbb.out]
          exact blk_set hc1 0 (.bool bb)
        · exact (Below.heap_setCell _ _ _ _ (by simp)).trans hb1
      · have y1 : (d == 1) = false := by rw [beq_eq_false_iff_ne]; exact d1
        by_cases d2 : d = 2
        · have he : mvL f L i d key = mvL f L i 2 [] := by unfold mvL; rw [if_neg d0, if_neg d1, if_pos d2]; rfl
          have y2 : (d == 2) = true := by rw [beq_iff_eq]; exact d2
          have HDD := Lib.hid d2
          clear d2
          have hn := HI.out.n "Next" (by simp)
          have hm := HI.out.mN
          have hc2 := HI.out.c kN (by simp)
          have HC := Lib.hid (HI.out.next W i F HM.out.st)
          go_wp2_with ((with_reducible refine HC.out.mono ?_); rintro e w1 ⟨bb, rfl, hbb, hmv⟩; obtain ⟨F1, hms, hk1⟩ := HM.out.call hmv.out; have hc1 := (hk1 (w.heap.size + 1 + 1) (.inr (.inr rfl))).trans hc; have hb1 := (hk1 (w.heap.size + 1) (.inr (.inl rfl))).trans hb; have s0 := (blk_cell hc1 0).trans rfl; have t0 := blk_frozen hc1 0)
          refine ⟨⟨F1, hms.set HI.out (a := ⟨w.heap.size + 1 + 1, 0, none⟩) (.inr (.inr rfl)) _⟩, ?_, ?_⟩
          · rw [← hbb.out]
            exact blk_set hc1 0 (.bool bb)
          · exact (Below.heap_setCell _ _ _ _ (by simp)).trans hb1
        · have y2 : (d == 2) = false := by rw [beq_eq_false_iff_ne]; exact d2
          by_cases d3 : d = 3
          · have he : mvL f L i d key = mvL f L i 3 [] := by unfold mvL; rw [if_neg d0, if_neg d1, if_neg d2, if_pos d3]; rfl
            have y3 : (d == 3) = true := by rw [beq_iff_eq]; exact d3
            have HDD := Lib.hid d3
            clear d3
            have hn := HI.out.n "Prev" (by simp)
            have hm := HI.out.mP
            have hc2 := HI.out.c kP (by simp)
            have HC := Lib.hid (HI.out.prev W i F HM.out.st)
            go_wp2_with ((with_reducible refine HC.out.mono ?_); rintro e w1 ⟨bb, rfl, hbb, hmv⟩; obtain ⟨F1, hms, hk1⟩ := HM.out.call hmv.out; have hc1 := (hk1 (w.heap.size + 1 + 1) (.inr (.inr rfl))).trans hc; have hb1 := (hk1 (w.heap.size + 1) (.inr (.inl rfl))).trans hb; have s0 := (blk_cell hc1 0).trans rfl; have t0 := blk_frozen hc1 0)
            refine ⟨⟨F1, hms.set HI.out (a := ⟨w.heap.size + 1 + 1, 0, none⟩) (.inr (.inr rfl)) _⟩, ?_, ?_⟩
            · rw [← hbb.out]
              exact blk_set hc1 0 (.bool bb)
            · exact (Below.heap_setCell _ _ _ _ (by simp)).trans hb1
          · have y3 : (d == 3) = false := by rw [beq_eq_false_iff_ne]; exact d3
            have he : mvL f L i d key = (findL f key L : Int) := by unfold mvL; rw [if_neg d0, if_neg d1, if_neg d2, if_neg d3]
            have hn := HI.out.n "Seek" (by simp)
            have hm := HI.out.mS
            have hc2 := HI.out.c kS (by simp)
            have HC := Lib.hid (HI.out.seek W i F HM.out.st A0 ca key HA2.out HA.out.2.1 HA.out.2.2)
            go_wp2_with ((with_reducible refine HC.out.mono ?_); rintro e w1 ⟨bb, rfl, hbb, hmv⟩; obtain ⟨F1, hms, hk1⟩ := HM.out.call hmv.out; have hc1 := (hk1 (w.heap.size + 1 + 1) (.inr (.inr rfl))).trans hc; have hb1 := (hk1 (w.heap.size + 1) (.inr (.inl rfl))).trans hb; have s0 := (blk_cell hc1 0).trans rfl; have t0 := blk_frozen hc1 0)
            refine ⟨⟨F1, hms.set HI.out (a := ⟨w.heap.size + 1 + 1, 0, none⟩) (.inr (.inr rfl)) _⟩, ?_, ?_⟩
            · rw [← hbb.out]
              exact blk_set hc1 0 (.bool bb)
            · exact (Below.heap_setCell _ _ _ _ (by simp)).trans hb1
  · rintro a' wc ⟨⟨u9, u10, u11, u12, u13, u14, u15, u16, u17, u18, u19, u20, u21, u22, u23, u24, u25, u26, u27, u28, u29, u30, u31, u32, u33, rfl⟩, hcut⟩
    obtain ⟨⟨F1, hms⟩, hc, hb⟩ := hcut
    have HM1 := Lib.hid hms
    generalize hj : mvL f L i d key = j at *
    have hnV := HI.out.n "Valid" (by simp)
    have hmV := HI.out.mV
    have hcV := HI.out.c kV (by simp)
    have hnE := HI.out.n "Error" (by simp)
    have hmE := HI.out.mE
    have hcE := HI.out.c kE (by simp)
    have HV := Lib.hid (HI.out.valid wc _ F1 HM1.out.st)
    clear hms hin HA HM HA2
    simp only [Exit.inBlock, Exit.then]
    go_upto_region 13 with (first
      | ((with_reducible refine HV.out.mono ?_); rintro e w1 ⟨bv, rfl, hbv, hmv⟩; obtain ⟨F2, hms2, hk2⟩ := HM1.out.call hmv.out; have hc2 := (hk2 (w.heap.size + 1 + 1) (.inr (.inr rfl))).trans hc; have hb2 := (hk2 (w.heap.size + 1) (.inr (.inl rfl))).trans hb; have HE := Lib.hid (HI.out.error w1 _ F2 hms2.st))
      | ((with_reducible refine HE.out.mono ?_); rintro e w2 ⟨rfl, hmv2⟩; obtain ⟨F3, hms3, hk3⟩ := hms2.call hmv2.out; have hc3 := (hk3 (w.heap.size + 1 + 1) (.inr (.inr rfl))).trans hc2; have hb3 := (hk3 (w.heap.size + 1) (.inr (.inl rfl))).trans hb2; have s1 : w2.cell? ⟨w.heap.size + 1 + 1, 1, none⟩ = some (.bool false) := (blk_cell hc3 1).trans rfl; have t1 := blk_frozen hc3 1; have s4 : w2.cell? ⟨w.heap.size + 1 + 1, 4, none⟩ = some (.int .i64 0) := (blk_cell hc3 4).trans rfl; have t4 := blk_frozen hc3 4)
      | (go_at_call 105; (with_reducible refine (errOf_nil _).mono ?_); rintro e w3 ⟨rfl, rfl⟩))
    have hc4 : ((w2.setCell ⟨w.heap.size + 1 + 1, 1, none⟩ (.bool bv)).setCell ⟨w.heap.size + 1 + 1, 4, none⟩ (.int .i64 0)).heap[w.heap.size + 1 + 1]? = some (.cells (atCells (onL L j) bv (.slice none 0 0) (.slice none 0 0) 0) 121 (0, 0)) := (blk_set (blk_set hc3 1 (.bool bv)) 4 (.int .i64 0)).trans rfl
    have hb4 : ((w2.setCell ⟨w.heap.size + 1 + 1, 1, none⟩ (.bool bv)).setCell ⟨w.heap.size + 1 + 1, 4, none⟩ (.int .i64 0)).heap[w.heap.size + 1]? = some (.cells (atCells false false (.slice none 0 0) (.slice none 0 0) 0) 121 (0, 0)) := (Below.heap_setCell _ _ _ _ (by simp)).trans ((Below.heap_setCell _ _ _ _ (by simp)).trans hb3)
    have HM4 := Lib.hid ((hms3.set HI.out (a := ⟨w.heap.size + 1 + 1, 1, none⟩) (.inr (.inr rfl)) (.bool bv)).set HI.out (a := ⟨w.heap.size + 1 + 1, 4, none⟩) (.inr (.inr rfl)) (.int .i64 0))
    have HBV := Lib.hid hbv.out
    clear hnV hmV hcV hnE hmE hcE HV HE hbv hmv hmv2 hms2 hms3 hk2 hk3 hc2 hc3 hb2 hb3 s1 t1 s4 t4 HM1 hc hb
    generalize (w2.setCell ⟨w.heap.size + 1 + 1, 1, none⟩ (.bool bv)).setCell ⟨w.heap.size + 1 + 1, 4, none⟩ (.int .i64 0) = w4 at *
    -- the key is copied
    have hnK := HI.out.n "Key" (by simp)
    have hmK := HI.out.mK
    have hcK := HI.out.c kK (by simp)
    have hnU := HI.out.n "Value" (by simp)
    have hmU := HI.out.mU
    have hcU := HI.out.c kU (by simp)
    have hlt5 := (HM4.out.new (w.heap.size + 1 + 1) (.inr (.inr rfl))).2
    have hlt4 := (HM4.out.new (w.heap.size + 1) (.inr (.inl rfl))).2
    have hb5 := below_alloc (Below.refl w4.heap.size w4) (.cells #[] 5)
    have HM5 := Lib.hid ((HM4.out.below HI.out hb5).more (q2 := fun k => q3 w.heap.size k ∨ k = w4.heap.size) (fun k hk => by
      rcases hk with hk | rfl
      · exact .inl hk
      · exact .inr ⟨HM4.out.fr.size, by simp, fun q => by have := HI.out.inside _ _ _ HM4.out.st _ q; omega⟩))
    have hc5 := (hb5.block _ hlt5).trans hc4
    have hd5 := (hb5.block _ hlt4).trans hb4
    have he5 := blk_new w4 (.cells #[] 5)
    have HKY := Lib.hid (HI.out.key _ _ _ HM5.out.st)
    have HROOM := Lib.hid (And.intro (key_room (L := L) j hL) HM4.out.fr.size)
    have HLT4 := Lib.hid (And.intro hlt4 hlt5)
    clear hb5 hlt5 hlt4 HM4 hc4 hb4
    go_upto_region 14 with (first
      | ((with_reducible refine HKY.out.mono ?_); rintro e w6 ⟨A6, c6, rfl, hkc, hmk⟩; obtain ⟨F6, hms6, hk6⟩ := HM5.out.call hmk.out; have hc6 := (hk6 _ (.inl (.inr (.inr rfl)))).trans hc5; have hd6 := (hk6 _ (.inl (.inr (.inl rfl)))).trans hd5; have he6 := (hk6 _ (.inr rfl)).trans he5)
      | (at_builtin; go_loud (refine print_append_row w.heap.size rfl (.tmp 41) (.tmp 43) 25 5 .u8 1 rfl Tryz.underlying25 info_u8 (by decide) _ [] (keyL L j) _ _ _ rfl rfl (own_empty he6 HROOM.out.2) (C_ints hkc.out) (Below.refl _ _) hms6.fr.size (by have := HROOM.out.1.1; simp; omega) ?_); rw [List.nil_append]; intro v7 w7 ho7 hb7 hg7 hat7; obtain ⟨A7, c7, rfl⟩ := own_slice ho7; obtain ⟨b7, hown7, hwh7, hlt7, hms7⟩ := hms6.copied HI.out (.inr rfl) ho7 hg7 hat7)
      | fail)
    have hg5lt := (hms6.new _ (.inl (.inr (.inr rfl)))).2
    have hg4lt := (hms6.new _ (.inl (.inr (.inl rfl)))).2
    have hn5 : w.heap.size + 1 + 1 ≠ w4.heap.size := fun e => by have := blk_lt hc5; have := HM5.out.new (w.heap.size + 1 + 1) (.inl (.inr (.inr rfl))); have := HLT4.out.2; omega
    have hn4 : w.heap.size + 1 ≠ w4.heap.size := fun e => by have := HLT4.out.1; omega
    have hc7 := (hg7.block _ hg5lt (fun e => hn5 (by injection e))).trans hc6
    have hd7 := (hg7.block _ hg4lt (fun e => hn4 (by injection e))).trans hd6
    have hb8 := below_alloc (Below.refl w7.heap.size w7) (.cells #[] 5)
    have hms8 := (hms7.below HI.out hb8).more (q2 := fun k => ((q3 w.heap.size k ∨ k = w4.heap.size) ∨ k = b7) ∨ k = w7.heap.size) (fun k hk => by
      rcases hk with hk | rfl
      · exact .inl hk
      · exact .inr ⟨hms7.fr.size, by simp, fun q => by have := HI.out.inside _ _ _ hms7.st _ q; omega⟩)
    have hc8 := (hb8.block _ (blk_lt hc7)).trans hc7
    have hd8 := (hb8.block _ (blk_lt hd7)).trans hd7
    have he8 := blk_new w7 (.cells #[] 5)
    have ho8 := pw_own_below ho7 hb8
    refine (HI.out.value _ _ _ hms8.st).mono ?_
    rintro e w9 ⟨A9, c9, rfl, hvc, hmu⟩
    obtain ⟨F9, hms9, hk9⟩ := hms8.call hmu.out
    have hc9 := (hk9 _ (.inl (.inl (.inl (.inr (.inr rfl)))))).trans hc8
    have hd9 := (hk9 _ (.inl (.inl (.inl (.inr (.inl rfl)))))).trans hd8
    have he9 := (hk9 _ (.inr rfl)).trans he8
    have ho9 := own_move ho8 (w1 := w9) (fun k hk => by
      rw [hown7] at hk
      injection hk with hk
      subst hk
      exact hk9 _ (.inl (.inr rfl)))
    have HX := Lib.hid (And.intro hc9 (And.intro hd9 (And.intro ho9 (And.intro hown7 (And.intro hlt7 (And.intro hms9 hvc))))))
    have HG5 := Lib.hid (And.intro (blk_lt hc7) (And.intro (blk_lt hd7) hms7.fr.size))
    have HH9 := Lib.hid (And.intro (blk_lt HX.out.1) (blk_lt HX.out.2.1))
    clear hg5lt hg4lt hn5 hn4 hc7 hd7 hb8 hms8 hc8 hd8 ho8 hmu hk9 hc9 hd9 ho9 hms6 hk6 hms7 hmk hkc hwh7 ho7 hb7 hg7 hat7 hc5 hd5 he5 hc6 hd6 he6 hnK hmK hcK hnU hmU hcU HKY he8
    go_upto_region 14 with (at_builtin; go_loud (refine print_append_row w.heap.size rfl (.tmp 45) (.tmp 47) 25 5 .u8 1 rfl Tryz.underlying25 info_u8 (by decide) _ [] (valL L j) _ _ _ rfl rfl (own_empty he9 HG5.out.2.2) (C_ints HX.out.2.2.2.2.2.2.out) (Below.refl _ _) HX.out.2.2.2.2.2.1.fr.size (by have := HROOM.out.1.2; simp; omega) ?_); rw [List.nil_append]; intro v10 w10 ho10 hb10 hg10 hat10; obtain ⟨A10, c10, rfl⟩ := own_slice ho10; obtain ⟨b10, hown10, hwh10, hlt10, hms10⟩ := HX.out.2.2.2.2.2.1.copied HI.out (.inr rfl) ho10 hg10 hat10; have hc10 := (hg10.block _ HH9.out.1 (fun e => Nat.ne_of_lt HG5.out.1 (by injection e))).trans HX.out.1; have s2 : w10.cell? ⟨w.heap.size + 1 + 1, 2, none⟩ = some (.slice none 0 0) := (blk_cell hc10 2).trans rfl; have t2 := blk_frozen hc10 2; have s3 : w10.cell? ⟨w.heap.size + 1 + 1, 3, none⟩ = some (.slice none 0 0) := (blk_cell hc10 3).trans rfl; have t3 := blk_frozen hc10 3)
    have hc11 : ((w10.setCell ⟨w.heap.size + 1 + 1, 2, none⟩ (.slice A7 (keyL L j).length c7)).setCell ⟨w.heap.size + 1 + 1, 3, none⟩ (.slice A10 (valL L j).length c10)).heap[w.heap.size + 1 + 1]? = some (.cells (atCells (onL L j) bv (.slice A7 (keyL L j).length c7) (.slice A10 (valL L j).length c10) 0) 121 (0, 0)) := (blk_set (blk_set hc10 2 _) 3 _).trans rfl
    have hd10 := (hg10.block _ HH9.out.2 (fun e => Nat.ne_of_lt HG5.out.2.1 (by injection e))).trans HX.out.2.1
    have hd11 : ((w10.setCell ⟨w.heap.size + 1 + 1, 2, none⟩ (.slice A7 (keyL L j).length c7)).setCell ⟨w.heap.size + 1 + 1, 3, none⟩ (.slice A10 (valL L j).length c10)).heap[w.heap.size + 1]? = some (.cells (atCells false false (.slice none 0 0) (.slice none 0 0) 0) 121 (0, 0)) := (Below.heap_setCell _ _ _ _ (by simp)).trans ((Below.heap_setCell _ _ _ _ (by simp)).trans hd10)
    have HM11 := Lib.hid ((hms10.set HI.out (a := ⟨w.heap.size + 1 + 1, 2, none⟩) (.inl (.inl (.inl (.inl (.inr (.inr rfl)))))) (.slice A7 (keyL L j).length c7)).set HI.out (a := ⟨w.heap.size + 1 + 1, 3, none⟩) (.inl (.inl (.inl (.inl (.inr (.inr rfl)))))) (.slice A10 (valL L j).length c10))
    have hne7 : b7 ≠ w7.heap.size := Nat.ne_of_lt HX.out.2.2.2.2.1
    have ho7' := own_other HX.out.2.2.1 hg10 (.inr (by rw [HX.out.2.2.2.1]; exact fun e => hne7 (by injection e)))
    have hn7 : some (w.heap.size + 1 + 1) ≠ (Value.slice A7 (keyL L j).length c7).ownBlock := own_ne ho7' hc10 (by decide)
    have hn10 : some (w.heap.size + 1 + 1) ≠ (Value.slice A10 (valL L j).length c10).ownBlock := own_ne ho10 hc10 (by decide)
    have HN4 := Lib.hid (And.intro (show some (w.heap.size + 1) ≠ (Value.slice A7 (keyL L j).length c7).ownBlock from own_ne ho7' hd10 (by decide)) (show some (w.heap.size + 1) ≠ (Value.slice A10 (valL L j).length c10).ownBlock from own_ne ho10 hd10 (by decide)))
    have HR := Lib.hid (And.intro (own_setCell (p := ⟨w.heap.size + 1 + 1, 3, none⟩) (own_setCell (p := ⟨w.heap.size + 1 + 1, 2, none⟩) ho7' hn7 (.slice A7 (keyL L j).length c7)) hn7 (.slice A10 (valL L j).length c10)) (own_setCell (p := ⟨w.heap.size + 1 + 1, 3, none⟩) (own_setCell (p := ⟨w.heap.size + 1 + 1, 2, none⟩) ho10 hn10 (.slice A7 (keyL L j).length c7)) hn10 (.slice A10 (valL L j).length c10)))
    clear hn7 hn10
    clear s2 t2 s3 t3 hc10 hd10 hms10 ho10 hb10 hg10 hat10 hlt10 hne7 ho7' he9
    generalize (w10.setCell ⟨w.heap.size + 1 + 1, 2, none⟩ (.slice A7 (keyL L j).length c7)).setCell ⟨w.heap.size + 1 + 1, 3, none⟩ (.slice A10 (valL L j).length c10) = w11 at *
    have l0 : w11.cell? ⟨w.heap.size + 1 + 1, 0, none⟩ = some (.bool (onL L j)) := (blk_cell hc11 0).trans rfl
    have l1 : w11.cell? ⟨w.heap.size + 1 + 1, 1, none⟩ = some (.bool bv) := (blk_cell hc11 1).trans rfl
    have l2 : w11.cell? ⟨w.heap.size + 1 + 1, 2, none⟩ = some (.slice A7 (keyL L j).length c7) := (blk_cell hc11 2).trans rfl
    have l3 : w11.cell? ⟨w.heap.size + 1 + 1, 3, none⟩ = some (.slice A10 (valL L j).length c10) := (blk_cell hc11 3).trans rfl
    have l4 : w11.cell? ⟨w.heap.size + 1 + 1, 4, none⟩ = some (.int .i64 0) := (blk_cell hc11 4).trans rfl
    have k0 : w11.cell? ⟨w.heap.size + 1, 0, none⟩ = some (.bool false) := (blk_cell hd11 0).trans rfl
    have k1 : w11.cell? ⟨w.heap.size + 1, 1, none⟩ = some (.bool false) := (blk_cell hd11 1).trans rfl
    have k2 : w11.cell? ⟨w.heap.size + 1, 2, none⟩ = some (.slice none 0 0) := (blk_cell hd11 2).trans rfl
    have k3 : w11.cell? ⟨w.heap.size + 1, 3, none⟩ = some (.slice none 0 0) := (blk_cell hd11 3).trans rfl
    have k4 : w11.cell? ⟨w.heap.size + 1, 4, none⟩ = some (.int .i64 0) := (blk_cell hd11 4).trans rfl
    have g0 := blk_frozen hd11 0
    have g1 := blk_frozen hd11 1
    have g2 := blk_frozen hd11 2
    have g3 := blk_frozen hd11 3
    have g4 := blk_frozen hd11 4
    generalize hon : onL L j = on at *
    have HON := Lib.hid hon
    clear hon
    go_wp2
    have hd12 : (((((w11.setCell ⟨w.heap.size + 1, 0, none⟩ (.bool on)).setCell ⟨w.heap.size + 1, 1, none⟩ (.bool bv)).setCell ⟨w.heap.size + 1, 2, none⟩ (.slice A7 (keyL L j).length c7)).setCell ⟨w.heap.size + 1, 3, none⟩ (.slice A10 (valL L j).length c10)).setCell ⟨w.heap.size + 1, 4, none⟩ (.int .i64 0)).heap[w.heap.size + 1]? = some (.cells (atCells on bv (.slice A7 (keyL L j).length c7) (.slice A10 (valL L j).length c10) 0) 121 (0, 0)) := (blk_set (blk_set (blk_set (blk_set (blk_set hd11 0 _) 1 _) 2 _) 3 _) 4 _).trans rfl
    have HR12 := Lib.hid (And.intro (own_setCell (p := ⟨w.heap.size + 1, 4, none⟩) (own_setCell (p := ⟨w.heap.size + 1, 3, none⟩) (own_setCell (p := ⟨w.heap.size + 1, 2, none⟩) (own_setCell (p := ⟨w.heap.size + 1, 1, none⟩) (own_setCell (p := ⟨w.heap.size + 1, 0, none⟩) HR.out.1 HN4.out.1 (.bool on)) HN4.out.1 (.bool bv)) HN4.out.1 (.slice A7 (keyL L j).length c7)) HN4.out.1 (.slice A10 (valL L j).length c10)) HN4.out.1 (.int .i64 0)) (own_setCell (p := ⟨w.heap.size + 1, 4, none⟩) (own_setCell (p := ⟨w.heap.size + 1, 3, none⟩) (own_setCell (p := ⟨w.heap.size + 1, 2, none⟩) (own_setCell (p := ⟨w.heap.size + 1, 1, none⟩) (own_setCell (p := ⟨w.heap.size + 1, 0, none⟩) HR.out.2 HN4.out.2 (.bool on)) HN4.out.2 (.bool bv)) HN4.out.2 (.slice A7 (keyL L j).length c7)) HN4.out.2 (.slice A10 (valL L j).length c10)) HN4.out.2 (.int .i64 0)))
    have HM12 := Lib.hid (((((HM11.out.set HI.out (a := ⟨w.heap.size + 1, 0, none⟩) (.inl (.inl (.inl (.inl (.inr (.inl rfl)))))) (.bool on)).set HI.out (a := ⟨w.heap.size + 1, 1, none⟩) (.inl (.inl (.inl (.inl (.inr (.inl rfl)))))) (.bool bv)).set HI.out (a := ⟨w.heap.size + 1, 2, none⟩) (.inl (.inl (.inl (.inl (.inr (.inl rfl)))))) (.slice A7 (keyL L j).length c7)).set HI.out (a := ⟨w.heap.size + 1, 3, none⟩) (.inl (.inl (.inl (.inl (.inr (.inl rfl)))))) (.slice A10 (valL L j).length c10)).set HI.out (a := ⟨w.heap.size + 1, 4, none⟩) (.inl (.inl (.inl (.inl (.inr (.inl rfl)))))) (.int .i64 0))
    generalize ((((w11.setCell ⟨w.heap.size + 1, 0, none⟩ (.bool on)).setCell ⟨w.heap.size + 1, 1, none⟩ (.bool bv)).setCell ⟨w.heap.size + 1, 2, none⟩ (.slice A7 (keyL L j).length c7)).setCell ⟨w.heap.size + 1, 3, none⟩ (.slice A10 (valL L j).length c10)).setCell ⟨w.heap.size + 1, 4, none⟩ (.int .i64 0) = w12 at *
    clear k0 k1 k2 k3 k4 l0 l1 l2 l3 l4 g0 g1 g2 g3 g4
    have k0 : w12.cell? ⟨w.heap.size + 1, 0, none⟩ = some (.bool on) := (blk_cell hd12 0).trans rfl
    have k1 : w12.cell? ⟨w.heap.size + 1, 1, none⟩ = some (.bool bv) := (blk_cell hd12 1).trans rfl
    have k2 : w12.cell? ⟨w.heap.size + 1, 2, none⟩ = some (.slice A7 (keyL L j).length c7) := (blk_cell hd12 2).trans rfl
    have k3 : w12.cell? ⟨w.heap.size + 1, 3, none⟩ = some (.slice A10 (valL L j).length c10) := (blk_cell hd12 3).trans rfl
    have k4 : w12.cell? ⟨w.heap.size + 1, 4, none⟩ = some (.int .i64 0) := (blk_cell hd12 4).trans rfl
    simp [bodyPost, results, Tryz.results84, go_sem, k0, k1, k2, k3, k4]
    have e1 := HON.out
    have e2 := HBV.out
    rw [hj]
    subst e1 e2
    refine ⟨A7, c7, A10, c10, _, _, rfl, HR12.out.1, HR12.out.2, HM12.out, fun k hk => ?_, fun k hk => ?_⟩
    · rw [HX.out.2.2.2.1] at hk
      injection hk with hk
      exact .inl (.inl (.inr hk.symm))
    · rw [hown10] at hk
      injection hk with hk
      exact .inr hk.symm

end Go.Proofs.YtdkkkikcigjlhaaGreatDoor.Md
