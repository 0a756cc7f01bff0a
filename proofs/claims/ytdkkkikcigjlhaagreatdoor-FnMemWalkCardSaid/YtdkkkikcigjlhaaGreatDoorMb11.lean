/- An iterator as a cursor: what its methods tell; impl's move. impl's walk: moves of an iterator, one behind the other. The laws' walked: what moves told is what a cursor does. -/
import Derived.Test.YtdkkkikcigjlhaaGreatDoorMb10
import Derived.Test.YtdkkkikcigjlhaaGreatDoorMb04
import Derived.Test.YtdkkkikcigjlhaaGreatDoorMb01
import Derived.Test.YtdkkkikcigjlhaaGreatDoorMb07
namespace Go.Proofs.YtdkkkikcigjlhaaGreatDoor.Md
open Go.RowKit Go.Proofs.YtdkkkikcigjlhaaGreatDoor.Con Go.Proofs.YtdkkkikcigjlhaaGreatDoor.Run Go.Proofs.YtdkkkikcigjlhaaGreatDoorW.PrintWords Go.Proofs.YtdkkkikcigjlhaaGreatDoorW.PrintMore Go.Proofs.YtdkkkikcigjlhaaGreatDoor.Cmp Go.Sort Go.RwLone
set_option linter.unusedVariables false
set_option linter.unusedSimpArgs false

/-- what a move leaves of an iterator: its place, and what blocks are its own -/
def Mv (St : World → Int → (Nat → Prop) → Prop) (w : World) (F : Nat → Prop) (i : Int) (w' : World) : Prop := ∃ F', St w' i F' ∧ Fr w w' F ∧ ∀ k, F' k → F k ∨ w.heap.size ≤ k

/-- an iterator over L -/
structure Iter (f : List Int → List Int → Int) (T : Nat) (u : Value) (kF kL kN kP kS kV kE kK kU : Nat) (L : List KV) (St : World → Int → (Nat → Prop) → Prop) : Prop where
  n : ∀ m, m ∈ ["First", "Last", "Next", "Prev", "Seek", "Valid", "Error", "Key", "Value"] → ∀ w, (nilAhead 418 T u m).run Tryz.prog w = .ok (some false) w
  mF : ∀ w, (method 418 T u "First").run Tryz.prog w = .ok (kF, u) w
  mL : ∀ w, (method 418 T u "Last").run Tryz.prog w = .ok (kL, u) w
  mN : ∀ w, (method 418 T u "Next").run Tryz.prog w = .ok (kN, u) w
  mP : ∀ w, (method 418 T u "Prev").run Tryz.prog w = .ok (kP, u) w
  mS : ∀ w, (method 418 T u "Seek").run Tryz.prog w = .ok (kS, u) w
  mV : ∀ w, (method 418 T u "Valid").run Tryz.prog w = .ok (kV, u) w
  mE : ∀ w, (method 418 T u "Error").run Tryz.prog w = .ok (kE, u) w
  mK : ∀ w, (method 418 T u "Key").run Tryz.prog w = .ok (kK, u) w
  mU : ∀ w, (method 418 T u "Value").run Tryz.prog w = .ok (kU, u) w
  c : ∀ k, k ∈ [kF, kL, kN, kP, kS, kV, kE, kK, kU] → ∀ (args : Array Value) (w : World), (callFunc k args).run Tryz.prog w = .ok (.enter k args) w
  inside : ∀ w i F, St w i F → ∀ k, F k → k < w.heap.size
  keep : ∀ w w1 i F, St w i F → (∀ k, F k → w1.heap[k]? = w.heap[k]?) → w.heap.size ≤ w1.heap.size → St w1 i F
  first : ∀ w i F, St w i F → Calls Tryz.prog kF #[u] w fun e w' => ∃ b, e = .returned (.bool b) ∧ Hid (b = onL L 0) ∧ Hid (Mv St w F 0 w')
  last : ∀ w i F, St w i F → Calls Tryz.prog kL #[u] w fun e w' => ∃ b, e = .returned (.bool b) ∧ Hid (b = onL L ((L.length : Int) - 1)) ∧ Hid (Mv St w F ((L.length : Int) - 1) w')
  next : ∀ w i F, St w i F → Calls Tryz.prog kN #[u] w fun e w' => ∃ b, e = .returned (.bool b) ∧ Hid (b = onL L (mvL f L i 2 [])) ∧ Hid (Mv St w F (mvL f L i 2 []) w')
  prev : ∀ w i F, St w i F → Calls Tryz.prog kP #[u] w fun e w' => ∃ b, e = .returned (.bool b) ∧ Hid (b = onL L (mvL f L i 3 [])) ∧ Hid (Mv St w F (mvL f L i 3 []) w')
  seek : ∀ w i F, St w i F → ∀ (A : Option Addr) (c : Nat) (key : List Int), Kd.C (Kd.int .u8) w A key.length key → Byt key → (0 < key.length → ∀ a, A = some a → ¬ F a.block) →
    Calls Tryz.prog kS #[u, .slice A key.length c] w fun e w' => ∃ b, e = .returned (.bool b) ∧ Hid (b = onL L (findL f key L : Int)) ∧ Hid (Mv St w F (findL f key L : Int) w')
  valid : ∀ w i F, St w i F → Calls Tryz.prog kV #[u] w fun e w' => ∃ b, e = .returned (.bool b) ∧ Hid (b = onL L i) ∧ Hid (Mv St w F i w')
  error : ∀ w i F, St w i F → Calls Tryz.prog kE #[u] w fun e w' => e = .returned .nilIface ∧ Hid (Mv St w F i w')
  key : ∀ w i F, St w i F → Calls Tryz.prog kK #[u] w fun e w' => ∃ A c, e = .returned (.slice A (keyL L i).length c) ∧ Hid (Kd.C (Kd.int .u8) w' A (keyL L i).length (keyL L i)) ∧ Hid (Mv St w F i w')
  value : ∀ w i F, St w i F → Calls Tryz.prog kU #[u] w fun e w' => ∃ A c, e = .returned (.slice A (valL L i).length c) ∧ Hid (Kd.C (Kd.int .u8) w' A (valL L i).length (valL L i)) ∧ Hid (Mv St w F i w')

set_option maxHeartbeats 1600000 in
theorem errOf_nil (w : World) : Calls Tryz.prog 105 #[.nilIface] w fun e w' => e = .returned (.int .i64 0) ∧ w = w' := by
  go_enter Tryz.func105, Tryz.ntmps105
  go_wp2
  go_ret
  exact ⟨rfl, rfl⟩

/-- an iterator in the midst of a call that began at w; q: the blocks of the call itself -/
structure MvS (St : World → Int → (Nat → Prop) → Prop) (w : World) (F : Nat → Prop) (W : World) (i : Int) (q : Nat → Prop) (F' : Nat → Prop) : Prop where
  st : St W i F'
  fr : Fr w W F
  own : ∀ k, F' k → F k ∨ w.heap.size ≤ k
  off : ∀ k, q k → ¬ F' k
  new : ∀ k, q k → w.heap.size ≤ k ∧ k < W.heap.size

section
variable {f : List Int → List Int → Int} {T : Nat} {u : Value} {kF kL kN kP kS kV kE kK kU : Nat} {L : List KV} {St : World → Int → (Nat → Prop) → Prop} {w W W1 : World} {F F' q : Nat → Prop} {i j : Int}

theorem MvS.call (h : MvS St w F W i q F') (m : Mv St W F' j W1) : ∃ F2, MvS St w F W1 j q F2 ∧ ∀ k, q k → W1.heap[k]? = W.heap[k]? := by
  obtain ⟨F2, m1, m2, m3⟩ := m
  refine ⟨F2, ⟨m1, h.fr.then_ m2 h.own, fun k hk => ?_, fun k hk hf => ?_, fun k hk => ⟨(h.new k hk).1, Nat.lt_of_lt_of_le (h.new k hk).2 m2.size⟩⟩, fun k hk => m2.block k (h.new k hk).2 (h.off k hk)⟩
  · rcases m3 k hk with q1 | q1
    · exact h.own k q1
    · exact .inr (Nat.le_trans h.fr.size q1)
  · rcases m3 k hf with q1 | q1
    · exact h.off k hk q1
    · have := (h.new k hk).2
      omega

theorem MvS.keepF (I : Iter f T u kF kL kN kP kS kV kE kK kU L St) (h : MvS St w F W i q F') (hk : ∀ k, F' k → W1.heap[k]? = W.heap[k]?) (hs : W.heap.size ≤ W1.heap.size) (hf : Fr w W1 F) : MvS St w F W1 i q F' :=
  ⟨I.keep _ _ _ _ h.st hk hs, hf, h.own, h.off, fun k hk => ⟨(h.new k hk).1, Nat.lt_of_lt_of_le (h.new k hk).2 hs⟩⟩

theorem MvS.set (I : Iter f T u kF kL kN kP kS kV kE kK kU L St) (h : MvS St w F W i q F') {a : Addr} (ha : q a.block) (v : Value) : MvS St w F (W.setCell a v) i q F' :=
  h.keepF I (fun k hk => Below.heap_setCell _ _ _ k (fun e => h.off a.block ha (e ▸ hk))) (by simp) (h.fr.setCell (.inr (h.new _ ha).1) v)

theorem MvS.below (I : Iter f T u kF kL kN kP kS kV kE kK kU L St) (h : MvS St w F W i q F') (hb : Below W.heap.size W W1) : MvS St w F W1 i q F' :=
  h.keepF I (fun k hk => hb.block k (I.inside _ _ _ h.st k hk)) hb.size (h.fr.then_ (Fr.of_below hb (fun _ => False)) (fun k hk => hk.elim))

/-- an append to a row of the call's own -/
theorem MvS.grown (I : Iter f T u kF kL kN kP kS kV kE kK kU L St) (h : MvS St w F W i q F') {row : Option Nat} (hg : W.grownBy W1 row) (hr : ∀ k, row = some k → ¬ F' k ∧ w.heap.size ≤ k) : MvS St w F W1 i q F' :=
  h.keepF I (fun k hk => hg.block k (I.inside _ _ _ h.st k hk) (fun e => (hr k e.symm).1 hk)) hg.size (h.fr.then_ (Fr.of_grown (S := fun k => row = some k) hg (fun k e => e)) (fun k hk => .inr (hr k hk).2))

/-- more blocks of the call itself -/
theorem MvS.more {q2 : Nat → Prop} (h : MvS St w F W i q F') (h1 : ∀ k, q2 k → q k ∨ (w.heap.size ≤ k ∧ k < W.heap.size ∧ ¬ F' k)) : MvS St w F W i q2 F' :=
  ⟨h.st, h.fr, h.own, fun k hk => (h1 k hk).elim (h.off k) (fun x => x.2.2), fun k hk => (h1 k hk).elim (h.new k) (fun x => ⟨x.1, x.2.1⟩)⟩
end

/-- a place's cells: At -/
def atCells (a b : Bool) (x y : Value) (e : Int) : Array Value := #[.bool a, .bool b, x, y, .int .i64 e]

structure Three (w : World) (a b c : Obj) (W : World) : Prop where
  below : Below w.heap.size w W
  a : W.heap[w.heap.size]? = some a
  b : W.heap[w.heap.size + 1]? = some b
  c : W.heap[w.heap.size + 1 + 1]? = some c

theorem three (w : World) (a b c : Array Value) (ta tb tc : TypeId) : Three w (.cells a ta) (.cells b tb) (.cells c tc) (((w.alloc (.cells a ta)).alloc (.cells b tb)).alloc (.cells c tc)) := by
  have h1 := below_alloc (Below.refl w.heap.size w) (.cells a ta)
  have h2 := h1.alloc h1.size (.cells b tb)
  have h3 := h2.alloc h2.size (.cells c tc)
  have n1 := blk_new w (.cells a ta)
  have n2 := blk_new (w.alloc (.cells a ta)) (.cells b tb)
  have n3 := blk_new ((w.alloc (.cells a ta)).alloc (.cells b tb)) (.cells c tc)
  simp only [World.size_alloc] at n2 n3
  have k : ∀ (W : World) (o : Obj) (i : Nat) (x : Obj), W.heap[i]? = some x → (W.alloc o).heap[i]? = some x := fun W o i x hx => ((below_alloc (Below.refl W.heap.size W) o).block i (blk_lt hx)).trans hx
  exact ⟨h3, k _ _ _ _ (k _ _ _ _ n1), k _ _ _ _ n2, n3⟩

/-- the three blocks of a move -/
def q3 (n k : Nat) : Prop := k = n ∨ k = n + 1 ∨ k = n + 1 + 1

theorem key_room {L : List KV} (i : Int) (h : ∀ x ∈ L, x.1.length ≤ 4294967296 ∧ x.2.length ≤ 4294967296) : (keyL L i).length ≤ 4294967296 ∧ (valL L i).length ≤ 4294967296 := by
  unfold keyL valL
  by_cases q : onL L i = true
  · rw [if_pos q, if_pos q]
    unfold onL at q
    simp only [Bool.and_eq_true, decide_eq_true_eq] at q
    have hlt : i.toNat < L.length := by omega
    have hm : L.getD i.toNat ([], []) ∈ L := by
      rw [List.getD_eq_getElem?_getD, List.getElem?_eq_getElem hlt]
      exact List.getElem_mem hlt
    exact h _ hm
  · rw [if_neg q, if_neg q]
    exact ⟨Nat.zero_le _, Nat.zero_le _⟩

theorem own_empty {W : World} {base g : Nat} {e : TypeId} (h : W.heap[g]? = some (.cells #[] e (0, 0))) (hb : base ≤ g) : W.ownsRow base e 1 (.slice (some ⟨g, 0, none⟩) 0 0) ([] : List Int).length (nums .u8 []) :=
  ⟨by simp [nums], Or.inr ⟨g, 0, #[], rfl, hb, h, Nat.le_refl _, by decide, by simp, by simp [nums]⟩⟩

/-- a copy that has been made: its row, the call's own blocks -/
theorem MvS.copied {f : List Int → List Int → Int} {T : Nat} {u : Value} {kF kL kN kP kS kV kE kK kU : Nat} {L : List KV} {St : World → Int → (Nat → Prop) → Prop} {w W W1 : World} {F F' q : Nat → Prop} {i : Int} (I : Iter f T u kF kL kN kP kS kV kE kK kU L St)
    (h : MvS St w F W i q F') {g : Nat} (hq : q g) {l : List Int} {v : Value} {base : Nat} (ho : W1.ownsRow base 5 1 v l.length (nums .u8 l)) (hg : W.grownBy W1 (some g)) (hat : v.ownBlock = some g ∨ ∃ b, v.ownBlock = some b ∧ W.heap.size ≤ b) :
    ∃ b, v.ownBlock = some b ∧ (b = g ∨ W.heap.size ≤ b) ∧ b < W1.heap.size ∧ MvS St w F W1 i (fun k => q k ∨ k = b) F' := by
  have hm := h.grown I hg (fun k hk => by injection hk with hk; subst hk; exact ⟨h.off _ hq, (h.new _ hq).1⟩)
  have fin : ∀ b, v.ownBlock = some b → (b = g ∨ W.heap.size ≤ b) → b < W1.heap.size ∧ MvS St w F W1 i (fun k => q k ∨ k = b) F' := by
    intro b hb hbg
    have hlt := own_lt ho b hb
    refine ⟨hlt, hm.more (fun k hk => ?_)⟩
    rcases hk with hk | rfl
    · exact .inl hk
    · rcases hbg with rfl | hle
      · exact .inl hq
      · exact .inr ⟨Nat.le_trans h.fr.size hle, hlt, fun q => by have := I.inside _ _ _ h.st _ q; omega⟩
  rcases hat with e | ⟨b, e, hle⟩
  · exact ⟨g, e, .inl rfl, fin g e (.inl rfl)⟩
  · exact ⟨b, e, .inr hle, fin b e (.inr hle)⟩

/-- behind the switch of a move -/
structure SwTold (St : World → Int → (Nat → Prop) → Prop) (L : List KV) (w : World) (F : Nat → Prop) (j : Int) (wc : World) : Prop where
  ex : ∃ F1, MvS St w F wc j (q3 w.heap.size) F1
  hc : wc.heap[w.heap.size + 1 + 1]? = some (.cells (atCells (onL L j) false (.slice none 0 0) (.slice none 0 0) 0) 121 (0, 0))
  hb : wc.heap[w.heap.size + 1]? = some (.cells (atCells false false (.slice none 0 0) (.slice none 0 0) 0) 121 (0, 0))

/-- what a move tells: the place's data, copied; q: the call's own blocks, the copies' among them -/
def MoveTold (St : World → Int → (Nat → Prop) → Prop) (L : List KV) (w : World) (F : Nat → Prop) (j : Int) (e : Ending) (w' : World) : Prop :=
  ∃ A c B d F' q, e = .returned (.agg #[.bool (onL L j), .bool (onL L j), .slice A (keyL L j).length c, .slice B (valL L j).length d, .int .i64 0]) ∧
    w'.ownsRow w.heap.size 5 1 (.slice A (keyL L j).length c) (keyL L j).length (nums .u8 (keyL L j)) ∧ w'.ownsRow w.heap.size 5 1 (.slice B (valL L j).length d) (valL L j).length (nums .u8 (valL L j)) ∧
    MvS St w F w' j q F' ∧ (∀ k, (Value.slice A (keyL L j).length c).ownBlock = some k → q k) ∧ ∀ k, (Value.slice B (valL L j).length d).ownBlock = some k → q k

theorem cut_tail {P : Program} {c : Code} {Q : Exit → Act → World → Prop} {a : Act} {w : World} (R : Act → World → Prop) (h1 : c.wp P (fun e a w => e = .normal ∧ R a w) a w) (h2 : ∀ a w, R a w → Q .normal a w) : c.wp P Q a w :=
  Code.wp_mono (fun e a w h => by obtain ⟨rfl, hr⟩ := h; exact h2 a w hr) h1

set_option maxHeartbeats 6400000 in
set_option maxRecDepth 100000 in
theorem move_calls {f : List Int → List Int → Int} {T : Nat} {u : Value} {kF kL kN kP kS kV kE kK kU : Nat} {L : List KV} {St : World → Int → (Nat → Prop) → Prop} (I : Iter f T u kF kL kN kP kS kV kE kK kU L St) {w : World} {i d : Int} {F : Nat → Prop} {A0 : Option Addr} {ca : Nat} {key : List Int}
    (h : St w i F) (hA : Kd.C (Kd.int .u8) w A0 key.length key) (hk : Byt key) (hne : 0 < key.length → ∀ a, A0 = some a → ¬ F a.block) (hL : ∀ x ∈ L, x.1.length ≤ 4294967296 ∧ x.2.length ≤ 4294967296) :
    Calls Tryz.prog 84 #[.iface T u, .agg #[.int .i64 d, .slice A0 key.length ca]] w fun e w' => MoveTold St L w F (mvL f L i d key) e w' := by
  have HI := Lib.hid I
  have HA := Lib.hid (And.intro hA (And.intro hk hne))
  have HS := Lib.hid h
  have hin := Lib.hid (I.inside w i F h)
  have H3 := Lib.hid (three w #[.int .i64 d, .slice A0 key.length ca] (atCells false false (.slice none 0 0) (.slice none 0 0) 0) (atCells false false (.slice none 0 0) (.slice none 0 0) 0) 104 121 121)
  have HM0 := Lib.hid (show MvS St w F w i (fun _ => False) F from ⟨h, Fr.refl _ _, fun k hk => .inl hk, fun k hk => hk.elim, fun k hk => hk.elim⟩)
  clear I hA hk hne h
  go_enter Tryz.func84, Tryz.ntmps84
  go_upto_region 2 with (fail)
  have HM := Lib.hid (show MvS St w F _ i (q3 w.heap.size) F from (HM0.out.below HI.out H3.out.below).more (fun k hk => .inr (by
    have h1 := H3.out
    have h2 := blk_lt h1.a
    have h3 := blk_lt h1.b
    have h4 := blk_lt h1.c
    have h5 := hin.out k
    rcases hk with rfl | rfl | rfl
    · exact ⟨Nat.le_refl _, h2, fun q => by have := h5 q; omega⟩
    · exact ⟨by omega, h3, fun q => by have := h5 q; omega⟩
    · exact ⟨by omega, h4, fun q => by have := h5 q; omega⟩)))
  have ha := H3.out.a
  have hb := H3.out.b
  have hc := H3.out.c
  have HA2 := Lib.hid (Kd.C_below HA.out.1 H3.out.below)
  simp only [atCells] at hc hb ha HM HA2
  clear HM0 H3 HS
  generalize hW : ((w.alloc (Obj.cells #[Value.int IntKind.i64 d, Value.slice A0 key.length ca] 104)).alloc (Obj.cells #[Value.bool false, Value.bool false, Value.slice none 0 0, Value.slice none 0 0, Value.int IntKind.i64 0] 121)).alloc (Obj.cells #[Value.bool false, Value.bool false, Value.slice none 0 0, Value.slice none 0 0, Value.int IntKind.i64 0] 121) = W at *
  clear hW
  have a0 := (blk_cell ha 0).trans rfl
  have a1 := (blk_cell ha 1).trans rfl
  go_upto_if 14 with (fail)
  refine cut_tail (fun (a' : Act) (wc : World) => (∃ u9 u10 u11 u12 u13 u14 u15 u16 u17 u18 u19 u20 u21 u22 u23 u24 u25 u26 u27 u28 u29 u30 u31 u32 u33 : Value, a' = { tmps := #[.iface T u, .agg #[.int .i64 d, .slice A0 key.length ca], undef, .pointer (some ⟨w.heap.size, 0, none⟩), .pointer (some ⟨w.heap.size + 1, 0, none⟩), .pointer (some ⟨w.heap.size + 1 + 1, 0, none⟩), .agg #[.bool false, .bool false, .slice none 0 0, .slice none 0 0, .int .i64 0], .pointer (some ⟨w.heap.size, 0, none⟩), .int .i64 d, u9, u10, u11, u12, u13, u14, u15, u16, u17, u18, u19, u20, u21, u22, u23, u24, u25, u26, u27, u28, u29, u30, u31, u32, u33, undef, undef, undef, undef, undef, undef, undef, undef, undef, undef, undef, undef, undef, undef, undef, undef, undef, undef], defers := [] }) ∧ SwTold St L w F (mvL f L i d key) wc) ?_ ?_
  · skip
    by_cases d0 : d = 0
    · have he : mvL f L i d key = 0 := by unfold mvL; rw [if_pos d0]
      have y0 : (d == 0) = true := by rw [beq_iff_eq]; exact d0
      have HDD := Lib.hid d0
      clear d0
      have hn := HI.out.n "First" (by simp)
      have hm := HI.out.mF
      have hc2 := HI.out.c kF (by simp)
      have HC := Lib.hid (HI.out.first W i F HM.out.st)
      go_wp2_with ((with_reducible refine HC.out.mono ?_); rintro e w1 ⟨bb, rfl, hbb, hmv⟩; obtain ⟨F1, hms, hk1⟩ := HM.out.call hmv.out; have hc1 := (hk1 (w.heap.size + 1 + 1) (.inr (.inr rfl))).trans hc; have hb1 := (hk1 (w.heap.size + 1) (.inr (.inl rfl))).trans hb; have s0 := (blk_cell hc1 0).trans rfl; have t0 := blk_frozen hc1 0)
      refine ⟨⟨F1, hms.set HI.out (a := ⟨w.heap.size + 1 + 1, 0, none⟩) (.inr (.inr rfl)) _⟩, ?_, ?_⟩
      · rw [← hbb.out]
        exact blk_set hc1 0 (.bool bb)
      · exact (Below.heap_setCell _ _ _ _ (by simp)).trans hb1
    · have y0 : (d == 0) = false := by rw [beq_eq_false_iff_ne]; exact d0
      by_cases d1 : d = 1
      · have he : mvL f L i d key = (L.length : Int) - 1 := by unfold mvL; rw [if_neg d0, if_pos d1]
        have y1 : (d == 1) = true := by rw [beq_iff_eq]; exact d1
        have HDD := Lib.hid d1
        clear d1
        have hn := HI.out.n "Last" (by simp)
        have hm := HI.out.mL
        have hc2 := HI.out.c kL (by simp)
        have HC := Lib.hid (HI.out.last W i F HM.out.st)
        go_wp2_with ((with_reducible refine HC.out.mono ?_); rintro e w1 ⟨bb, rfl, hbb, hmv⟩; obtain ⟨F1, hms, hk1⟩ := HM.out.call hmv.out; have hc1 := (hk1 (w.heap.size + 1 + 1) (.inr (.inr rfl))).trans hc; have hb1 := (hk1 (w.heap.size + 1) (.inr (.inl rfl))).trans hb; have s0 := (blk_cell hc1 0).trans rfl; have t0 := blk_frozen hc1 0)
        refine ⟨⟨F1, hms.set HI.out (a := ⟨w.heap.size + 1 + 1, 0, none⟩) (.inr (.inr rfl)) _⟩, ?_, ?_⟩
        · rw [← hbb.out]
          exact blk_set hc1 0 (.bool bb)
        · exact (Below.heap_setCell _ _ _ _ (by simp)).trans hb1
      · have y1 : (d == 1) = false := by rw [beq_eq_false_iff_ne]; exact d1
        by_cases d2 : d = 2
        · have he : mvL f L i d key = mvL f L i 2 [] := by unfold mvL; rw [if_neg d0, if_neg d1, if_pos d2]; rfl
          have y2 : (d == 2) = true := by rw [beq_iff_eq]; exact d2
          have HDD := Lib.hid d2
          clear d2
          have hn := HI.out.n "Next" (by simp)
          have hm := HI.out.mN
          have hc2 := HI.out.c kN (by simp)
          have HC := Lib.hid (HI.out.next W i F HM.out.st)
          go_wp2_with ((with_reducible refine HC.out.mono ?_); rintro e w1 ⟨bb, rfl, hbb, hmv⟩; obtain ⟨F1, hms, hk1⟩ := HM.out.call hmv.out; have hc1 := (hk1 (w.heap.size + 1 + 1) (.inr (.inr rfl))).trans hc; have hb1 := (hk1 (w.heap.size + 1) (.inr (.inl rfl))).trans hb; have s0 := (blk_cell hc1 0).trans rfl; have t0 := blk_frozen hc1 0)
          refine ⟨⟨F1, hms.set HI.out (a := ⟨w.heap.size + 1 + 1, 0, none⟩) (.inr (.inr rfl)) _⟩, ?_, ?_⟩
          · rw [← hbb.out]
            exact blk_set hc1 0 (.bool bb)
          · exact (Below.heap_setCell _ _ _ _ (by simp)).trans hb1
        · have y2 : (d == 2) = false := by rw [beq_eq_false_iff_ne]; exact d2
          by_cases d3 : d = 3
          · have he : mvL f L i d key = mvL f L i 3 [] := by unfold mvL; rw [if_neg d0, if_neg d1, if_neg d2, if_pos d3]; rfl
            have y3 : (d == 3) = true := by rw [beq_iff_eq]; exact d3
            have HDD := Lib.hid d3
            clear d3
            have hn := HI.out.n "Prev" (by simp)
            have hm := HI.out.mP
            have hc2 := HI.out.c kP (by simp)
            have HC := Lib.hid (HI.out.prev W i F HM.out.st)
            go_wp2_with ((with_reducible refine HC.out.mono ?_); rintro e w1 ⟨bb, rfl, hbb, hmv⟩; obtain ⟨F1, hms, hk1⟩ := HM.out.call hmv.out; have hc1 := (hk1 (w.heap.size + 1 + 1) (.inr (.inr rfl))).trans hc; have hb1 := (hk1 (w.heap.size + 1) (.inr (.inl rfl))).trans hb; have s0 := (blk_cell hc1 0).trans rfl; have t0 := blk_frozen hc1 0)
            refine ⟨⟨F1, hms.set HI.out (a := ⟨w.heap.size + 1 + 1, 0, none⟩) (.inr (.inr rfl)) _⟩, ?_, ?_⟩
            · rw [← hbb.out]
              exact blk_set hc1 0 (.bool bb)
            · exact (Below.heap_setCell _ _ _ _ (by simp)).trans hb1
          · have y3 : (d == 3) = false := by rw [beq_eq_false_iff_ne]; exact d3
            have he : mvL f L i d key = (findL f key L : Int) := by unfold mvL; rw [if_neg d0, if_neg d1, if_neg d2, if_neg d3]
            have hn := HI.out.n "Seek" (by simp)
            have hm := HI.out.mS
            have hc2 := HI.out.c kS (by simp)
            have HC := Lib.hid (HI.out.seek W i F HM.out.st A0 ca key HA2.out HA.out.2.1 HA.out.2.2)
            go_wp2_with ((with_reducible refine HC.out.mono ?_); rintro e w1 ⟨bb, rfl, hbb, hmv⟩; obtain ⟨F1, hms, hk1⟩ := HM.out.call hmv.out; have hc1 := (hk1 (w.heap.size + 1 + 1) (.inr (.inr rfl))).trans hc; have hb1 := (hk1 (w.heap.size + 1) (.inr (.inl rfl))).trans hb; have s0 := (blk_cell hc1 0).trans rfl; have t0 := blk_frozen hc1 0)
            refine ⟨⟨F1, hms.set HI.out (a := ⟨w.heap.size + 1 + 1, 0, none⟩) (.inr (.inr rfl)) _⟩, ?_, ?_⟩
            · rw [← hbb.out]
              exact blk_set hc1 0 (.bool bb)
            · exact (Below.heap_setCell _ _ _ _ (by simp)).trans hb1
  · rintro a' wc ⟨⟨u9, u10, u11, u12, u13, u14, u15, u16, u17, u18, u19, u20, u21, u22, u23, u24, u25, u26, u27, u28, u29, u30, u31, u32, u33, rfl⟩, hcut⟩
    obtain ⟨⟨F1, hms⟩, hc, hb⟩ := hcut
    have HM1 := Lib.hid hms
    generalize hj : mvL f L i d key = j at *
    have hnV := HI.out.n "Valid" (by simp)
    have hmV := HI.out.mV
    have hcV := HI.out.c kV (by simp)
    have hnE := HI.out.n "Error" (by simp)
    have hmE := HI.out.mE
    have hcE := HI.out.c kE (by simp)
    have HV := Lib.hid (HI.out.valid wc _ F1 HM1.out.st)
    clear hms hin HA HM HA2
    simp only [Exit.inBlock, Exit.then]
    go_upto_region 13 with (first
      | ((with_reducible refine HV.out.mono ?_); rintro e w1 ⟨bv, rfl, hbv, hmv⟩; obtain ⟨F2, hms2, hk2⟩ := HM1.out.call hmv.out; have hc2 := (hk2 (w.heap.size + 1 + 1) (.inr (.inr rfl))).trans hc; have hb2 := (hk2 (w.heap.size + 1) (.inr (.inl rfl))).trans hb; have HE := Lib.hid (HI.out.error w1 _ F2 hms2.st))
      | ((with_reducible refine HE.out.mono ?_); rintro e w2 ⟨rfl, hmv2⟩; obtain ⟨F3, hms3, hk3⟩ := hms2.call hmv2.out; have hc3 := (hk3 (w.heap.size + 1 + 1) (.inr (.inr rfl))).trans hc2; have hb3 := (hk3 (w.heap.size + 1) (.inr (.inl rfl))).trans hb2; have s1 : w2.cell? ⟨w.heap.size + 1 + 1, 1, none⟩ = some (.bool false) := (blk_cell hc3 1).trans rfl; have t1 := blk_frozen hc3 1; have s4 : w2.cell? ⟨w.heap.size + 1 + 1, 4, none⟩ = some (.int .i64 0) := (blk_cell hc3 4).trans rfl; have t4 := blk_frozen hc3 4)
      | (go_at_call 105; (with_reducible refine (errOf_nil _).mono ?_); rintro e w3 ⟨rfl, rfl⟩))
    have hc4 : ((w2.setCell ⟨w.heap.size + 1 + 1, 1, none⟩ (.bool bv)).setCell ⟨w.heap.size + 1 + 1, 4, none⟩ (.int .i64 0)).heap[w.heap.size + 1 + 1]? = some (.cells (atCells (onL L j) bv (.slice none 0 0) (.slice none 0 0) 0) 121 (0, 0)) := (blk_set (blk_set hc3 1 (.bool bv)) 4 (.int .i64 0)).trans rfl
    have hb4 : ((w2.setCell ⟨w.heap.size + 1 + 1, 1, none⟩ (.bool bv)).setCell ⟨w.heap.size + 1 + 1, 4, none⟩ (.int .i64 0)).heap[w.heap.size + 1]? = some (.cells (atCells false false (.slice none 0 0) (.slice none 0 0) 0) 121 (0, 0)) := (Below.heap_setCell _ _ _ _ (by simp)).trans ((Below.heap_setCell _ _ _ _ (by simp)).trans hb3)
    have HM4 := Lib.hid ((hms3.set HI.out (a := ⟨w.heap.size + 1 + 1, 1, none⟩) (.inr (.inr rfl)) (.bool bv)).set HI.out (a := ⟨w.heap.size + 1 + 1, 4, none⟩) (.inr (.inr rfl)) (.int .i64 0))
    have HBV := Lib.hid hbv.out
    clear hnV hmV hcV hnE hmE hcE HV HE hbv hmv hmv2 hms2 hms3 hk2 hk3 hc2 hc3 hb2 hb3 s1 t1 s4 t4 HM1 hc hb
    generalize (w2.setCell ⟨w.heap.size + 1 + 1, 1, none⟩ (.bool bv)).setCell ⟨w.heap.size + 1 + 1, 4, none⟩ (.int .i64 0) = w4 at *
    -- the key is copied
    have hnK := HI.out.n "Key" (by simp)
    have hmK := HI.out.mK
    have hcK := HI.out.c kK (by simp)
    have hnU := HI.out.n "Value" (by simp)
    have hmU := HI.out.mU
    have hcU := HI.out.c kU (by simp)
    have hlt5 := (HM4.out.new (w.heap.size + 1 + 1) (.inr (.inr rfl))).2
    have hlt4 := (HM4.out.new (w.heap.size + 1) (.inr (.inl rfl))).2
    have hb5 := below_alloc (Below.refl w4.heap.size w4) (.cells #[] 5)
    have HM5 := Lib.hid ((HM4.out.below HI.out hb5).more (q2 := fun k => q3 w.heap.size k ∨ k = w4.heap.size) (fun k hk => by
      rcases hk with hk | rfl
      · exact .inl hk
      · exact .inr ⟨HM4.out.fr.size, by simp, fun q => by have := HI.out.inside _ _ _ HM4.out.st _ q; omega⟩))
    have hc5 := (hb5.block _ hlt5).trans hc4
    have hd5 := (hb5.block _ hlt4).trans hb4
    have he5 := blk_new w4 (.cells #[] 5)
    have HKY := Lib.hid (HI.out.key _ _ _ HM5.out.st)
    have HROOM := Lib.hid (And.intro (key_room (L := L) j hL) HM4.out.fr.size)
    have HLT4 := Lib.hid (And.intro hlt4 hlt5)
    clear hb5 hlt5 hlt4 HM4 hc4 hb4
    go_upto_region 14 with (first
      | ((with_reducible refine HKY.out.mono ?_); rintro e w6 ⟨A6, c6, rfl, hkc, hmk⟩; obtain ⟨F6, hms6, hk6⟩ := HM5.out.call hmk.out; have hc6 := (hk6 _ (.inl (.inr (.inr rfl)))).trans hc5; have hd6 := (hk6 _ (.inl (.inr (.inl rfl)))).trans hd5; have he6 := (hk6 _ (.inr rfl)).trans he5)
      | (at_builtin; go_loud (refine print_append_row w.heap.size rfl (.tmp 41) (.tmp 43) 25 5 .u8 1 rfl Tryz.underlying25 info_u8 (by decide) _ [] (keyL L j) _ _ _ rfl rfl (own_empty he6 HROOM.out.2) (C_ints hkc.out) (Below.refl _ _) hms6.fr.size (by have := HROOM.out.1.1; simp; omega) ?_); rw [List.nil_append]; intro v7 w7 ho7 hb7 hg7 hat7; obtain ⟨A7, c7, rfl⟩ := own_slice ho7; obtain ⟨b7, hown7, hwh7, hlt7, hms7⟩ := hms6.copied HI.out (.inr rfl) ho7 hg7 hat7)
      | fail)
    have hg5lt := (hms6.new _ (.inl (.inr (.inr rfl)))).2
    have hg4lt := (hms6.new _ (.inl (.inr (.inl rfl)))).2
    have hn5 : w.heap.size + 1 + 1 ≠ w4.heap.size := fun e => by have := blk_lt hc5; have := HM5.out.new (w.heap.size + 1 + 1) (.inl (.inr (.inr rfl))); have := HLT4.out.2; omega
    have hn4 : w.heap.size + 1 ≠ w4.heap.size := fun e => by have := HLT4.out.1; omega
    have hc7 := (hg7.block _ hg5lt (fun e => hn5 (by injection e))).trans hc6
    have hd7 := (hg7.block _ hg4lt (fun e => hn4 (by injection e))).trans hd6
    have hb8 := below_alloc (Below.refl w7.heap.size w7) (.cells #[] 5)
    have hms8 := (hms7.below HI.out hb8).more (q2 := fun k => ((q3 w.heap.size k ∨ k = w4.heap.size) ∨ k = b7) ∨ k = w7.heap.size) (fun k hk => by
      rcases hk with hk | rfl
      · exact .inl hk
      · exact .inr ⟨hms7.fr.size, by simp, fun q => by have := HI.out.inside _ _ _ hms7.st _ q; omega⟩)
    have hc8 := (hb8.block _ (blk_lt hc7)).trans hc7
    have hd8 := (hb8.block _ (blk_lt hd7)).trans hd7
    have he8 := blk_new w7 (.cells #[] 5)
    have ho8 := pw_own_below ho7 hb8
    refine (HI.out.value _ _ _ hms8.st).mono ?_
    rintro e w9 ⟨A9, c9, rfl, hvc, hmu⟩
    obtain ⟨F9, hms9, hk9⟩ := hms8.call hmu.out
    have hc9 := (hk9 _ (.inl (.inl (.inl (.inr (.inr rfl)))))).trans hc8
    have hd9 := (hk9 _ (.inl (.inl (.inl (.inr (.inl rfl)))))).trans hd8
    have he9 := (hk9 _ (.inr rfl)).trans he8
    have ho9 := own_move ho8 (w1 := w9) (fun k hk => by
      rw [hown7] at hk
      injection hk with hk
      subst hk
      exact hk9 _ (.inl (.inr rfl)))
    have HX := Lib.hid (And.intro hc9 (And.intro hd9 (And.intro ho9 (And.intro hown7 (And.intro hlt7 (And.intro hms9 hvc))))))
    have HG5 := Lib.hid (And.intro (blk_lt hc7) (And.intro (blk_lt hd7) hms7.fr.size))
    have HH9 := Lib.hid (And.intro (blk_lt HX.out.1) (blk_lt HX.out.2.1))
    clear hg5lt hg4lt hn5 hn4 hc7 hd7 hb8 hms8 hc8 hd8 ho8 hmu hk9 hc9 hd9 ho9 hms6 hk6 hms7 hmk hkc hwh7 ho7 hb7 hg7 hat7 hc5 hd5 he5 hc6 hd6 he6 hnK hmK hcK hnU hmU hcU HKY he8
    go_upto_region 14 with (at_builtin; go_loud (refine print_append_row w.heap.size rfl (.tmp 45) (.tmp 47) 25 5 .u8 1 rfl Tryz.underlying25 info_u8 (by decide) _ [] (valL L j) _ _ _ rfl rfl (own_empty he9 HG5.out.2.2) (C_ints HX.out.2.2.2.2.2.2.out) (Below.refl _ _) HX.out.2.2.2.2.2.1.fr.size (by have := HROOM.out.1.2; simp; omega) ?_); rw [List.nil_append]; intro v10 w10 ho10 hb10 hg10 hat10; obtain ⟨A10, c10, rfl⟩ := own_slice ho10; obtain ⟨b10, hown10, hwh10, hlt10, hms10⟩ := HX.out.2.2.2.2.2.1.copied HI.out (.inr rfl) ho10 hg10 hat10; have hc10 := (hg10.block _ HH9.out.1 (fun e => Nat.ne_of_lt HG5.out.1 (by injection e))).trans HX.out.1; have s2 : w10.cell? ⟨w.heap.size + 1 + 1, 2, none⟩ = some (.slice none 0 0) := (blk_cell hc10 2).trans rfl; have t2 := blk_frozen hc10 2; have s3 : w10.cell? ⟨w.heap.size + 1 + 1, 3, none⟩ = some (.slice none 0 0) := (blk_cell hc10 3).trans rfl; have t3 := blk_frozen hc10 3)
    have hc11 : ((w10.setCell ⟨w.heap.size + 1 + 1, 2, none⟩ (.slice A7 (keyL L j).length c7)).setCell ⟨w.heap.size + 1 + 1, 3, none⟩ (.slice A10 (valL L j).length c10)).heap[w.heap.size + 1 + 1]? = some (.cells (atCells (onL L j) bv (.slice A7 (keyL L j).length c7) (.slice A10 (valL L j).length c10) 0) 121 (0, 0)) := (blk_set (blk_set hc10 2 _) 3 _).trans rfl
    have hd10 := (hg10.block _ HH9.out.2 (fun e => Nat.ne_of_lt HG5.out.2.1 (by injection e))).trans HX.out.2.1
    have hd11 : ((w10.setCell ⟨w.heap.size + 1 + 1, 2, none⟩ (.slice A7 (keyL L j).length c7)).setCell ⟨w.heap.size + 1 + 1, 3, none⟩ (.slice A10 (valL L j).length c10)).heap[w.heap.size + 1]? = some (.cells (atCells false false (.slice none 0 0) (.slice none 0 0) 0) 121 (0, 0)) := (Below.heap_setCell _ _ _ _ (by simp)).trans ((Below.heap_setCell _ _ _ _ (by simp)).trans hd10)
    have HM11 := Lib.hid ((hms10.set HI.out (a := ⟨w.heap.size + 1 + 1, 2, none⟩) (.inl (.inl (.inl (.inl (.inr (.inr rfl)))))) (.slice A7 (keyL L j).length c7)).set HI.out (a := ⟨w.heap.size + 1 + 1, 3, none⟩) (.inl (.inl (.inl (.inl (.inr (.inr rfl)))))) (.slice A10 (valL L j).length c10))
    have hne7 : b7 ≠ w7.heap.size := Nat.ne_of_lt HX.out.2.2.2.2.1
    have ho7' := own_other HX.out.2.2.1 hg10 (.inr (by rw [HX.out.2.2.2.1]; exact fun e => hne7 (by injection e)))
    have hn7 : some (w.heap.size + 1 + 1) ≠ (Value.slice A7 (keyL L j).length c7).ownBlock := own_ne ho7' hc10 (by decide)
    have hn10 : some (w.heap.size + 1 + 1) ≠ (Value.slice A10 (valL L j).length c10).ownBlock := own_ne ho10 hc10 (by decide)
    have HN4 := Lib.hid (And.intro (show some (w.heap.size + 1) ≠ (Value.slice A7 (keyL L j).length c7).ownBlock from own_ne ho7' hd10 (by decide)) (show some (w.heap.size + 1) ≠ (Value.slice A10 (valL L j).length c10).ownBlock from own_ne ho10 hd10 (by decide)))
    have HR := Lib.hid (And.intro (own_setCell (p := ⟨w.heap.size + 1 + 1, 3, none⟩) (own_setCell (p := ⟨w.heap.size + 1 + 1, 2, none⟩) ho7' hn7 (.slice A7 (keyL L j).length c7)) hn7 (.slice A10 (valL L j).length c10)) (own_setCell (p := ⟨w.heap.size + 1 + 1, 3, none⟩) (own_setCell (p := ⟨w.heap.size + 1 + 1, 2, none⟩) ho10 hn10 (.slice A7 (keyL L j).length c7)) hn10 (.slice A10 (valL L j).length c10)))
    clear hn7 hn10
    clear s2 t2 s3 t3 hc10 hd10 hms10 ho10 hb10 hg10 hat10 hlt10 hne7 ho7' he9
    generalize (w10.setCell ⟨w.heap.size + 1 + 1, 2, none⟩ (.slice A7 (keyL L j).length c7)).setCell ⟨w.heap.size + 1 + 1, 3, none⟩ (.slice A10 (valL L j).length c10) = w11 at *
    have l0 : w11.cell? ⟨w.heap.size + 1 + 1, 0, none⟩ = some (.bool (onL L j)) := (blk_cell hc11 0).trans rfl
    have l1 : w11.cell? ⟨w.heap.size + 1 + 1, 1, none⟩ = some (.bool bv) := (blk_cell hc11 1).trans rfl
    have l2 : w11.cell? ⟨w.heap.size + 1 + 1, 2, none⟩ = some (.slice A7 (keyL L j).length c7) := (blk_cell hc11 2).trans rfl
    have l3 : w11.cell? ⟨w.heap.size + 1 + 1, 3, none⟩ = some (.slice A10 (valL L j).length c10) := (blk_cell hc11 3).trans rfl
    have l4 : w11.cell? ⟨w.heap.size + 1 + 1, 4, none⟩ = some (.int .i64 0) := (blk_cell hc11 4).trans rfl
    have k0 : w11.cell? ⟨w.heap.size + 1, 0, none⟩ = some (.bool false) := (blk_cell hd11 0).trans rfl
    have k1 : w11.cell? ⟨w.heap.size + 1, 1, none⟩ = some (.bool false) := (blk_cell hd11 1).trans rfl
    have k2 : w11.cell? ⟨w.heap.size + 1, 2, none⟩ = some (.slice none 0 0) := (blk_cell hd11 2).trans rfl
    have k3 : w11.cell? ⟨w.heap.size + 1, 3, none⟩ = some (.slice none 0 0) := (blk_cell hd11 3).trans rfl
    have k4 : w11.cell? ⟨w.heap.size + 1, 4, none⟩ = some (.int .i64 0) := (blk_cell hd11 4).trans rfl
    have g0 := blk_frozen hd11 0
    have g1 := blk_frozen hd11 1
    have g2 := blk_frozen hd11 2
    have g3 := blk_frozen hd11 3
    have g4 := blk_frozen hd11 4
    generalize hon : onL L j = on at *
    have HON := Lib.hid hon
    clear hon
    go_wp2
    have hd12 : (((((w11.setCell ⟨w.heap.size + 1, 0, none⟩ (.bool on)).setCell ⟨w.heap.size + 1, 1, none⟩ (.bool bv)).setCell ⟨w.heap.size + 1, 2, none⟩ (.slice A7 (keyL L j).length c7)).setCell ⟨w.heap.size + 1, 3, none⟩ (.slice A10 (valL L j).length c10)).setCell ⟨w.heap.size + 1, 4, none⟩ (.int .i64 0)).heap[w.heap.size + 1]? = some (.cells (atCells on bv (.slice A7 (keyL L j).length c7) (.slice A10 (valL L j).length c10) 0) 121 (0, 0)) := (blk_set (blk_set (blk_set (blk_set (blk_set hd11 0 _) 1 _) 2 _) 3 _) 4 _).trans rfl
    have HR12 := Lib.hid (And.intro (own_setCell (p := ⟨w.heap.size + 1, 4, none⟩) (own_setCell (p := ⟨w.heap.size + 1, 3, none⟩) (own_setCell (p := ⟨w.heap.size + 1, 2, none⟩) (own_setCell (p := ⟨w.heap.size + 1, 1, none⟩) (own_setCell (p := ⟨w.heap.size + 1, 0, none⟩) HR.out.1 HN4.out.1 (.bool on)) HN4.out.1 (.bool bv)) HN4.out.1 (.slice A7 (keyL L j).length c7)) HN4.out.1 (.slice A10 (valL L j).length c10)) HN4.out.1 (.int .i64 0)) (own_setCell (p := ⟨w.heap.size + 1, 4, none⟩) (own_setCell (p := ⟨w.heap.size + 1, 3, none⟩) (own_setCell (p := ⟨w.heap.size + 1, 2, none⟩) (own_setCell (p := ⟨w.heap.size + 1, 1, none⟩) (own_setCell (p := ⟨w.heap.size + 1, 0, none⟩) HR.out.2 HN4.out.2 (.bool on)) HN4.out.2 (.bool bv)) HN4.out.2 (.slice A7 (keyL L j).length c7)) HN4.out.2 (.slice A10 (valL L j).length c10)) HN4.out.2 (.int .i64 0)))
    have HM12 := Lib.hid (((((HM11.out.set HI.out (a := ⟨w.heap.size + 1, 0, none⟩) (.inl (.inl (.inl (.inl (.inr (.inl rfl)))))) (.bool on)).set HI.out (a := ⟨w.heap.size + 1, 1, none⟩) (.inl (.inl (.inl (.inl (.inr (.inl rfl)))))) (.bool bv)).set HI.out (a := ⟨w.heap.size + 1, 2, none⟩) (.inl (.inl (.inl (.inl (.inr (.inl rfl)))))) (.slice A7 (keyL L j).length c7)).set HI.out (a := ⟨w.heap.size + 1, 3, none⟩) (.inl (.inl (.inl (.inl (.inr (.inl rfl)))))) (.slice A10 (valL L j).length c10)).set HI.out (a := ⟨w.heap.size + 1, 4, none⟩) (.inl (.inl (.inl (.inl (.inr (.inl rfl)))))) (.int .i64 0))
    generalize ((((w11.setCell ⟨w.heap.size + 1, 0, none⟩ (.bool on)).setCell ⟨w.heap.size + 1, 1, none⟩ (.bool bv)).setCell ⟨w.heap.size + 1, 2, none⟩ (.slice A7 (keyL L j).length c7)).setCell ⟨w.heap.size + 1, 3, none⟩ (.slice A10 (valL L j).length c10)).setCell ⟨w.heap.size + 1, 4, none⟩ (.int .i64 0) = w12 at *
    clear k0 k1 k2 k3 k4 l0 l1 l2 l3 l4 g0 g1 g2 g3 g4
    have k0 : w12.cell? ⟨w.heap.size + 1, 0, none⟩ = some (.bool on) := (blk_cell hd12 0).trans rfl
    have k1 : w12.cell? ⟨w.heap.size + 1, 1, none⟩ = some (.bool bv) := (blk_cell hd12 1).trans rfl
    have k2 : w12.cell? ⟨w.heap.size + 1, 2, none⟩ = some (.slice A7 (keyL L j).length c7) := (blk_cell hd12 2).trans rfl
    have k3 : w12.cell? ⟨w.heap.size + 1, 3, none⟩ = some (.slice A10 (valL L j).length c10) := (blk_cell hd12 3).trans rfl
    have k4 : w12.cell? ⟨w.heap.size + 1, 4, none⟩ = some (.int .i64 0) := (blk_cell hd12 4).trans rfl
    simp [bodyPost, results, Tryz.results84, go_sem, k0, k1, k2, k3, k4]
    have e1 := HON.out
    have e2 := HBV.out
    rw [hj]
    subst e1 e2
    refine ⟨A7, c7, A10, c10, _, _, rfl, HR12.out.1, HR12.out.2, HM12.out, fun k hk => ?_, fun k hk => ?_⟩
    · rw [HX.out.2.2.2.1] at hk
      injection hk with hk
      exact .inl (.inl (.inr hk.symm))
    · rw [hown10] at hk
      injection hk with hk
      exact .inr hk.symm

end Go.Proofs.YtdkkkikcigjlhaaGreatDoor.Md

namespace Go.Proofs.YtdkkkikcigjlhaaGreatDoor.Md
open Go.RowKit Go.Proofs.YtdkkkikcigjlhaaGreatDoor.Con Go.Proofs.YtdkkkikcigjlhaaGreatDoor.Run Go.Proofs.YtdkkkikcigjlhaaGreatDoorW.PrintWords Go.Proofs.YtdkkkikcigjlhaaGreatDoorW.PrintMore Go.Proofs.YtdkkkikcigjlhaaGreatDoor.Cmp Go.Sort Go.RwLone Go.Proofs.YtdkkkikcigjlhaaGreatDoor.PFnMemMap
set_option linter.unusedVariables false
set_option linter.unusedSimpArgs false

/-- what moves tell -/
def atsL (f : List Int → List Int → Int) (L : List KV) : Int → List S104 → List S121
  | _, [] => []
  | i, m :: r => ⟨onL L (mvL f L i m.f0 m.f1), onL L (mvL f L i m.f0 m.f1), keyL L (mvL f L i m.f0 m.f1), valL L (mvL f L i m.f0 m.f1), 0⟩ :: atsL f L (mvL f L i m.f0 m.f1) r
/-- where they end -/
def endL (f : List Int → List Int → Int) (L : List KV) : Int → List S104 → Int
  | i, [] => i
  | i, m :: r => endL f L (mvL f L i m.f0 m.f1) r

theorem atsL_snoc (f : List Int → List Int → Int) (L : List KV) (m : S104) : ∀ (ms : List S104) (i : Int), atsL f L i (ms ++ [m]) = atsL f L i ms ++ [⟨onL L (mvL f L (endL f L i ms) m.f0 m.f1), onL L (mvL f L (endL f L i ms) m.f0 m.f1), keyL L (mvL f L (endL f L i ms) m.f0 m.f1), valL L (mvL f L (endL f L i ms) m.f0 m.f1), 0⟩] := by
  intro ms
  induction ms with
  | nil => intro i; rfl
  | cons x r ih => intro i; simp only [List.cons_append, atsL, endL, ih]
theorem endL_snoc (f : List Int → List Int → Int) (L : List KV) (m : S104) : ∀ (ms : List S104) (i : Int), endL f L i (ms ++ [m]) = mvL f L (endL f L i ms) m.f0 m.f1 := by
  intro ms
  induction ms with
  | nil => intro i; rfl
  | cons x r ih => intro i; simp only [List.cons_append, endL, ih]
theorem atsL_len (f : List Int → List Int → Int) (L : List KV) : ∀ (ms : List S104) (i : Int), (atsL f L i ms).length = ms.length := by
  intro ms
  induction ms with
  | nil => intro i; rfl
  | cons x r ih => intro i; simp only [atsL, List.length_cons, ih]

theorem take_next {α : Type} {l : List α} {i : Nat} (h : i < l.length) (z : α) : l.take (i + 1) = l.take i ++ [l.getD i z] := by
  rw [List.take_add_one, List.getElem?_eq_getElem h]
  simp [List.getD_eq_getElem?_getD, List.getElem?_eq_getElem h]

/-- a row of the call's own, as a row that is read in its own block -/
theorem own_F {W : World} {base n c : Nat} {A : Option Addr} {l : List Int} {ok : Nat → Prop} (h : W.ownsRow base 5 1 (.slice A n c) n (nums .u8 l)) (hq : ∀ k, (Value.slice A n c).ownBlock = some k → ok k) : Kd.F (Kd.int .u8) W ok A n l := fun W' hW =>
  ints_C (own_reads' (own_move h (fun k hk => hW k (hq k hk) (own_lt h k hk))))

/-- a part of a call, done by another one -/
theorem MvS.then_ {St : World → Int → (Nat → Prop) → Prop} {w W W2 : World} {F F' F2 q q2 : Nat → Prop} {i j : Int} (h : MvS St w F W i q F') (g : MvS St W F' W2 j q2 F2) : MvS St w F W2 j (fun k => q k ∨ q2 k) F2 :=
  ⟨g.st, h.fr.then_ g.fr h.own, fun k hk => (g.own k hk).elim (h.own k) (fun q => .inr (Nat.le_trans h.fr.size q)), fun k hk hf => by
    rcases hk with hk | hk
    · rcases g.own k hf with q1 | q1
      · exact h.off k hk q1
      · have := (h.new k hk).2
        omega
    · exact g.off k hk hf, fun k hk => by
    rcases hk with hk | hk
    · exact ⟨(h.new k hk).1, Nat.lt_of_lt_of_le (h.new k hk).2 g.fr.size⟩
    · exact ⟨Nat.le_trans h.fr.size (g.new k hk).1, (g.new k hk).2⟩⟩

theorem at_room {m j n : Nat} (h : m = j) (hj : j < n) (hn : n ≤ 4294967296) : (m + 1) * 64 ≤ 140737488355328 := by omega

/-- what a round's append asks -/
theorem walk_round {f : List Int → List Int → Int} {T : Nat} {u : Value} {kF kL kN kP kS kV kE kK kU : Nat} {L : List KV} {St : World → Int → (Nat → Prop) → Prop} (I : Iter f T u kF kL kN kP kS kV kE kK kU L St) {w w1 w2 : World} {F F' F2 q2 : Nat → Prop} {i j : Int} {v : Value} {xs : List S121} {A B : Option Addr} {c d : Nat} {a b : Bool} {l k : List Int} {z : Int}
    (hm : MvS St w F w1 i (fun _ => False) F') (hn : Kd.N k121 121 w1 w.heap.size (fun k => w.heap.size ≤ k ∧ ¬ F' k) v xs)
    (ho1 : w2.ownsRow w1.heap.size 5 1 (.slice A l.length c) l.length (nums .u8 l)) (ho2 : w2.ownsRow w1.heap.size 5 1 (.slice B k.length d) k.length (nums .u8 k)) (hm2 : MvS St w1 F' w2 j q2 F2)
    (hq1 : ∀ g, (Value.slice A l.length c).ownBlock = some g → q2 g) (hq2 : ∀ g, (Value.slice B k.length d).ownBlock = some g → q2 g) :
    Kd.FK k121 w2 q2 ⟨a, b, l, k, z⟩ [.bool a, .bool b, .slice A l.length c, .slice B k.length d, .int .i64 z] ∧ (∀ g, q2 g → (w.heap.size ≤ g ∧ ¬ F2 g) ∧ some g ≠ v.ownBlock) ∧ (∀ g, w2.heap.size ≤ g → w.heap.size ≤ g ∧ ¬ F2 g) ∧
      Kd.N k121 121 w2 w.heap.size (fun k => w.heap.size ≤ k ∧ ¬ F2 k) v xs ∧ w.heap.size ≤ w2.heap.size ∧ MvS St w F w2 j (fun _ => False) F2 := by
  have hs := hm.fr.size
  have hs2 := hm2.fr.size
  have hN := Kd.N_mono (Kd.N_step (Kd.N_bound hn) (fun k hk _ => hm2.fr.block k hk.2 hk.1.2)) (ok' := fun k => w.heap.size ≤ k ∧ ¬ F2 k) (fun k hk => ⟨hk.1.1, fun q => by
    rcases hm2.own k q with q1 | q1
    · exact hk.1.2 q1
    · have := hk.2
      omega⟩)
  refine ⟨k121_mkF w2 q2 ⟨a, b, l, k, z⟩ (own_cap ho1) (own_F ho1 hq1) (own_cap ho2) (own_F ho2 hq2), fun g hg => ⟨⟨Nat.le_trans hs (hm2.new g hg).1, hm2.off g hg⟩, fun e => ?_⟩, fun g hg => ⟨by omega, fun q => by have := I.inside _ _ _ hm2.st _ q; omega⟩, hN, by omega, ?_⟩
  · have h1 := Kd.N_lt hn g e.symm
    have h2 := (hm2.new g hg).1
    omega
  · exact (hm.then_ hm2).more (fun k hk => hk.elim)

theorem info_At : (Tryz.prog.info? 121).map (fun i => (i.zero, i.size, i.bytes)) = some (some (.agg #[.bool false, .bool false, .slice none 0 0, .slice none 0 0, .int .i64 0]), 5, 64) := by kernel_rfl

set_option maxHeartbeats 6400000 in
set_option maxRecDepth 100000 in
theorem walk_calls {f : List Int → List Int → Int} {T : Nat} {u : Value} {kF kL kN kP kS kV kE kK kU : Nat} {L : List KV} {St : World → Int → (Nat → Prop) → Prop} (I : Iter f T u kF kL kN kP kS kV kE kK kU L St) {w : World} {i : Int} {F ok : Nat → Prop} {A : Option Addr} {c : Nat} {ms : List S104}
    (h : St w i F) (hA : Kd.F k104 w ok A ms.length ms) (hb : ∀ m ∈ ms, Byt m.f1) (hne : ∀ k, ok k → k < w.heap.size → ¬ F k) (hold : ∀ k, ok k → ¬ w.heap.size ≤ k) (hL : ∀ x ∈ L, x.1.length ≤ 4294967296 ∧ x.2.length ≤ 4294967296) (hms : ms.length ≤ 4294967296) :
    Calls Tryz.prog 61 #[.iface T u, .slice A ms.length c] w fun e w' => ∃ v F', e = .returned v ∧ Kd.N k121 121 w' w.heap.size (fun k => w.heap.size ≤ k ∧ ¬ F' k) v (atsL f L i ms) ∧ MvS St w F w' (endL f L i ms) (fun _ => False) F' := by
  have HI := Lib.hid I
  have HM := Lib.hid (show MvS St w F w i (fun _ => False) F from ⟨h, Fr.refl _ _, fun k hk => .inl hk, fun k hk => hk.elim, fun k hk => hk.elim⟩)
  have HA := Lib.hid (And.intro hA (And.intro hb hne))
  have HL := Lib.hid (And.intro hL hms)
  have HOK := Lib.hid hold
  clear I h hA hb hne hL hms hold
  generalize hn : ms.length = n at *
  have HN := Lib.hid hn
  clear hn
  go_enter Tryz.func61, Tryz.ntmps61
  go_wp2
  go_loopg [4, 9] n (fun k v4 v9 w' => ∃ (j : Nat) (F' : Nat → Prop), v9 = .int .i64 (j : Int) ∧ Hid (j ≤ n ∧ n ≤ j + k) ∧ Hid (Kd.N k121 121 w' w.heap.size (fun k => w.heap.size ≤ k ∧ ¬ F' k) v4 (atsL f L i (ms.take j))) ∧ Hid (MvS St w F w' (endL f L i (ms.take j)) (fun _ => False) F'))
  case atStart => exact ⟨0, F, rfl, Lib.hid ⟨Nat.zero_le _, by omega⟩, Lib.hid (Kd.N_nil _ _ _ _ _), HM⟩
  case round =>
    obtain ⟨j, F', rfl, HJ, HNN, HMS⟩ := hrel
    by_cases hj : j < n
    · have hFr : Kd.F k104 wr ok A n ms := Kd.F_step HA.out.1 (fun k ho hk => HMS.out.fr.block k hk (HA.out.2.2 k ho hk))
      obtain ⟨ad, cs, rfl, hcl, hK, hcell, hokb⟩ := Kd.F_get hFr (⟨0, []⟩ : S104) (j : Int) (Int.natCast_nonneg _) (by omega)
      obtain ⟨A1, c1, rfl, hl1, hF1⟩ := k104_openF hK
      have r0 := hcell 0 _ rfl
      have r1 := hcell 1 _ rfl
      rw [Int.toNat_natCast] at r0 r1
      have e2 : j * k104.sz + 0 = j * 2 := rfl
      have e3 : j * k104.sz + 1 = j * 2 + 1 := rfl
      rw [e2] at r0
      rw [e3, add_field ad (j * 2) 1 (by omega)] at r1
      have hF1' : Kd.F (Kd.int .u8) wr ok A1 (ms.getD (j : Int).toNat (⟨0, []⟩ : S104)).f1.length (ms.getD (j : Int).toNat (⟨0, []⟩ : S104)).f1 := hF1
      rw [Int.toNat_natCast] at hF1'
      have hmem : ms.getD j (⟨0, []⟩ : S104) ∈ ms := by
        rw [List.getD_eq_getElem?_getD, List.getElem?_eq_getElem (by rw [HN.out]; exact hj)]
        exact List.getElem_mem _
      have HTK := Lib.hid (take_next (l := ms) (i := j) (by rw [HN.out]; exact hj) (⟨0, []⟩ : S104))
      have HBY := Lib.hid (HA.out.2.1 _ hmem)
      generalize ms.getD j (⟨0, []⟩ : S104) = m at *
      have HF1 := Lib.hid hF1'
      have z0 : decide ((j : Int) < (n : Int)) = true := decide_eq_true (by omega)
      clear hF1' hF1 hcell hK hcl e2 e3 hmem hFr hokb hl1
      go_upto_region 4 with (fail)
      have hb1 := below_alloc (Below.refl wr.heap.size wr) (.cells #[.int .i64 m.f0, .slice A1 m.f1.length c1] 104)
      have k0 : (wr.alloc (.cells #[.int .i64 m.f0, .slice A1 m.f1.length c1] 104)).cell? ⟨wr.heap.size, 0, none⟩ = some (.int .i64 m.f0) := (blk_cell (blk_new wr _) 0).trans rfl
      have k1 : (wr.alloc (.cells #[.int .i64 m.f0, .slice A1 m.f1.length c1] 104)).cell? ⟨wr.heap.size, 1, none⟩ = some (.slice A1 m.f1.length c1) := (blk_cell (blk_new wr _) 1).trans rfl
      have HM1 := Lib.hid (HMS.out.below HI.out hb1)
      have HN1 := Lib.hid (Kd.N_below HNN.out hb1)
      have HMV := Lib.hid (move_calls (d := m.f0) (ca := c1) HI.out HM1.out.st (Kd.F_now (Kd.F_below HF1.out hb1)) HBY.out (fun hp a ha hf => by
        have hok := Kd.F_in HF1.out ha hp (by decide)
        have hlt := Kd.C_lt (d := Kd.int .u8) (ad := a) (by have := Kd.F_now HF1.out; rw [ha] at this; exact this) hp (by decide)
        rcases HMS.out.own _ hf with q | q
        · exact HA.out.2.2 _ hok (by have := HI.out.inside _ _ _ HM.out.st _ q; omega) q
        · exact HOK.out _ hok q) HL.out.1)
      clear r0 r1 hb1 HNN HMS HF1
      generalize wr.alloc (.cells #[.int .i64 m.f0, .slice A1 m.f1.length c1] 104) = w1 at *
      have hjl : (atsL f L i (ms.take j)).length = j := by rw [atsL_len, List.length_take, HN.out]; omega
      have HJL := Lib.hid (And.intro hjl (And.intro hj HJ.out.2))
      have w1' : wrap64 ((j : Int) + 1) = (j : Int) + 1 := wz (by omega) (by have := HL.out.2; omega)
      clear hjl
      go_upto_region 5 with (first
        | (go_at_call 84; (with_reducible refine HMV.out.mono ?_); rintro e w2 ⟨A2, c2, B2, d2, F2, q2, rfl, ho1, ho2, hm2, hq1, hq2⟩; have HX := Lib.hid (walk_round (a := onL L (mvL f L (endL f L i (ms.take j)) m.f0 m.f1)) (b := onL L (mvL f L (endL f L i (ms.take j)) m.f0 m.f1)) (z := 0) HI.out HM1.out HN1.out ho1 ho2 hm2 hq1 hq2))
        | (at_builtin; go_loud (refine Kd.N_append k121 w.heap.size rfl (.tmp 13) (.tmp 17) 52 121 (.agg #[.bool false, .bool false, .slice none 0 0, .slice none 0 0, .int .i64 0]) 64 rfl Tryz.underlying52 info_At rfl (by decide) (by decide) _ _ _ _ _ _ rfl rfl HX.out.1 HX.out.2.1 HX.out.2.2.1 HX.out.2.2.2.1 (Below.refl _ _) HX.out.2.2.2.2.1 (at_room HJL.out.1 HJL.out.2.1 HL.out.2) ?_); intro v3 w3 hn3 hb3 hg3 hat3))
      have HMS3 := Lib.hid ((HX.out.2.2.2.2.2.grown HI.out hg3 (fun k hk => ⟨(HX.out.2.2.2.1.1 k hk).2, (HX.out.2.2.2.1.1 k hk).1⟩)).more (q2 := fun _ => False) (fun k hk => hk.elim))
      have HN3 := Lib.hid hn3
      clear hn3 hb3 hg3 hat3 ho1 ho2 hm2 hq1 hq2
      go_wp2
      go_roundg (gk - 1)
      case measure => exact round_less HJL.out.2.1 HJL.out.2.2
      case rel =>
        refine ⟨j + 1, F2, (by first | rfl | exact congrArg _ w1'), Lib.hid (round_next HJL.out.2.1 HJL.out.2.2), ?_, ?_⟩
        · rw [HTK.out, atsL_snoc]
          exact HN3
        · rw [HTK.out, endL_snoc]
          exact HMS3
    · have z0 : decide ((j : Int) < (n : Int)) = false := decide_eq_false (by omega)
      have hjn : j = n := by have := HJ.out.1; omega
      have HJN := Lib.hid hjn
      clear hjn
      go_wp2
      go_ret
      have e : ms.take j = ms := by rw [HJN.out, ← HN.out, List.take_length]
      have h1 := HNN.out
      have h2 := HMS.out
      rw [e] at h1 h2
      exact ⟨_, F', rfl, h1, h2⟩

end Go.Proofs.YtdkkkikcigjlhaaGreatDoor.Md

namespace Go.Proofs.YtdkkkikcigjlhaaGreatDoor.Md
open Go.RowKit Go.Proofs.YtdkkkikcigjlhaaGreatDoor.Con Go.Proofs.YtdkkkikcigjlhaaGreatDoor.Run Go.Proofs.YtdkkkikcigjlhaaGreatDoorW.PrintWords Go.Proofs.YtdkkkikcigjlhaaGreatDoorW.PrintMore Go.Proofs.YtdkkkikcigjlhaaGreatDoor.Cmp Go.Sort Go.RwLone Go.Proofs.YtdkkkikcigjlhaaGreatDoor.PFnMemMap
set_option linter.unusedVariables false
set_option linter.unusedSimpArgs false

set_option maxHeartbeats 1600000 in
theorem CursorNew_calls (o : Int) (A : Option Addr) (n c : Nat) (w : World) :
    Calls Tryz.prog 63 #[.int .i64 o, .slice A n c] w fun e w' => e = .returned (curV o A n c (-1)) ∧ Below w.heap.size w w' := by
  have hb := below_alloc (Below.refl w.heap.size w) (.cells #[.int .i64 o, .slice A n c, .int .i64 (-1)] 116)
  have HB := Lib.hid hb
  have hk := blk_new w (.cells #[.int .i64 o, .slice A n c, .int .i64 (-1)] 116)
  have k0 := (blk_cell hk 0).trans rfl
  have k1 := (blk_cell hk 1).trans rfl
  have k2 := (blk_cell hk 2).trans rfl
  clear hb hk
  go_enter Tryz.func63, Tryz.ntmps63
  go_wp2
  simp [bodyPost, results, Tryz.results63, go_sem, k0, k1, k2]
  exact ⟨rfl, HB.out⟩

theorem atsL_at (f : List Int → List Int → Int) (L : List KV) (m : S104) : ∀ (ms : List S104) (i : Int) (j : Nat), j < ms.length → ms.getD j (⟨0, []⟩ : S104) = m → (atsL f L i ms).getD j (⟨false, false, [], [], 0⟩ : S121) = ⟨onL L (mvL f L (endL f L i (ms.take j)) m.f0 m.f1), onL L (mvL f L (endL f L i (ms.take j)) m.f0 m.f1), keyL L (mvL f L (endL f L i (ms.take j)) m.f0 m.f1), valL L (mvL f L (endL f L i (ms.take j)) m.f0 m.f1), 0⟩ := by
  intro ms
  induction ms with
  | nil => intro i j h; simp at h
  | cons x r ih =>
    intro i j h hm
    cases j with
    | zero =>
      simp only [List.getD_cons_zero] at hm
      subst hm
      simp [atsL, endL]
    | succ j =>
      simp only [List.getD_cons_succ] at hm
      simp only [List.length_cons] at h
      simp only [atsL, List.getD_cons_succ, List.take_succ_cons, endL]
      exact ih _ j (by omega) hm

theorem mvL_in (f : List Int → List Int → Int) (L : List KV) (i d : Int) (key : List Int) (hi : -1 ≤ i ∧ i ≤ (L.length : Int)) : -1 ≤ mvL f L i d key ∧ mvL f L i d key ≤ (L.length : Int) := by
  have h := findL_le f key L
  unfold mvL
  split
  · omega
  · split
    · omega
    · split
      · split <;> omega
      · split
        · split <;> omega
        · omega
theorem endL_in (f : List Int → List Int → Int) (L : List KV) : ∀ (ms : List S104) (i : Int), (-1 ≤ i ∧ i ≤ (L.length : Int)) → -1 ≤ endL f L i ms ∧ endL f L i ms ≤ (L.length : Int) := by
  intro ms
  induction ms with
  | nil => intro i h; exact h
  | cons x r ih => intro i h; exact ih _ (mvL_in f L i _ _ h)

/-- a place of a walk, by its number -/
theorem at_at {w : World} {ok : Nat → Prop} {A : Option Addr} {n : Nat} {l : List S121} (h : Kd.F k121 w ok A n l) {j : Nat} (hj : j < n) {x : S121} (hx : l.getD j (⟨false, false, [], [], 0⟩ : S121) = x) :
    ∃ ad A1 c1 A2 c2, A = some ad ∧ w.cell? (ad.add (j * 5)) = some (.bool x.f0) ∧ w.cell? ⟨(ad.add (j * 5)).block, (ad.add (j * 5)).off + 1, none⟩ = some (.bool x.f1) ∧ w.cell? ⟨(ad.add (j * 5)).block, (ad.add (j * 5)).off + 2, none⟩ = some (.slice A1 x.f2.length c1) ∧ w.cell? ⟨(ad.add (j * 5)).block, (ad.add (j * 5)).off + 3, none⟩ = some (.slice A2 x.f3.length c2) ∧ w.cell? ⟨(ad.add (j * 5)).block, (ad.add (j * 5)).off + 4, none⟩ = some (.int .i64 x.f4) ∧ Kd.F (Kd.int .u8) w ok A1 x.f2.length x.f2 ∧ Kd.F (Kd.int .u8) w ok A2 x.f3.length x.f3 ∧ x.f2.length ≤ c1 ∧ x.f3.length ≤ c2 := by
  obtain ⟨ad, cs', rfl, hcl, hK, hcell, hokb⟩ := Kd.F_get h (⟨false, false, [], [], 0⟩ : S121) (j : Int) (Int.natCast_nonneg _) (by omega)
  obtain ⟨A1, c1, A2, c2, rfl, hl1, hF1, hl2, hF2⟩ := k121_openF hK
  have r0 := hcell 0 _ rfl
  have r1 := hcell 1 _ rfl
  have r2 := hcell 2 _ rfl
  have r3 := hcell 3 _ rfl
  have r4 := hcell 4 _ rfl
  rw [Int.toNat_natCast, hx] at r0 r1 r2 r3 r4 hF1 hF2 hl1 hl2
  have e1 : j * k121.sz + 1 = j * 5 + 1 := rfl
  have e2 : j * k121.sz + 2 = j * 5 + 2 := rfl
  have e3 : j * k121.sz + 3 = j * 5 + 3 := rfl
  have e4 : j * k121.sz + 4 = j * 5 + 4 := rfl
  rw [e1, add_field ad (j * 5) 1 (by omega)] at r1
  rw [e2, add_field ad (j * 5) 2 (by omega)] at r2
  rw [e3, add_field ad (j * 5) 3 (by omega)] at r3
  rw [e4, add_field ad (j * 5) 4 (by omega)] at r4
  exact ⟨ad, A1, c1, A2, c2, rfl, r0, r1, r2, r3, r4, hF1, hF2, hl1, hl2⟩

end Go.Proofs.YtdkkkikcigjlhaaGreatDoor.Md
