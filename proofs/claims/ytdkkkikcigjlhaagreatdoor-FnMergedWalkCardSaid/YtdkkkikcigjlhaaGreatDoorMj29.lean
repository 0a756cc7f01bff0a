/- The memory table: NewIterator; impl's span. The memory table's pairs as a list: a put, pure. impl's MemWalk: puts, and a walk over a range. -/
import Derived.Test.YtdkkkikcigjlhaaGreatDoorMj28
set_option linter.unusedVariables false
set_option linter.unusedSimpArgs false
namespace Go.Proofs.YtdkkkikcigjlhaaGreatDoor.Md
open Go.RowKit Go.Proofs.YtdkkkikcigjlhaaGreatDoor.Con Go.Proofs.YtdkkkikcigjlhaaGreatDoor.Run Go.Proofs.YtdkkkikcigjlhaaGreatDoorW.PrintWords Go.Proofs.YtdkkkikcigjlhaaGreatDoorW.PrintMore Go.Proofs.YtdkkkikcigjlhaaGreatDoor.Cmp Go.Sort Go.RwLone Go.Proofs.YtdkkkikcigjlhaaGreatDoor.PFnMemMap

def newIt (p : Nat) (sv : Value) : Array Value :=
  #[.nilIface, .bool false, .pointer (some ⟨p, 0, none⟩), sv, .int .i64 0, .bool false, nilS, nilS, .nilIface]

set_option maxHeartbeats 1600000 in
theorem NewIterator_calls (p : Nat) (s : Option Addr) (w : World) :
    Calls Tryz.prog 53 #[.pointer (some ⟨p, 0, none⟩), .pointer s] w fun e w' => e = .returned (.iface 147 (.pointer (some ⟨w.heap.size, 0, none⟩))) ∧ w.alloc (.cells (newIt p (.pointer s)) 153) = w' := by
  go_enter Tryz.func53, Tryz.ntmps53
  go_wp2
  go_ret
  exact ⟨rfl, rfl⟩

def Cp (base : Nat) (W : World) (v : Value) : Option (List Int) → Prop
  | none => v = nilS
  | some l => Byt l ∧ W.ownsRow base 5 1 v l.length (nums .u8 l) ∧ ∃ g, v.ownBlock = some g

theorem Cp.keep {base : Nat} {W W1 : World} {v : Value} {b : Option (List Int)} (h : Cp base W v b) (hk : ∀ g, v.ownBlock = some g → g < W.heap.size → W1.heap[g]? = W.heap[g]?) : Cp base W1 v b := by
  cases b with
  | none => exact h
  | some l => exact ⟨h.1, own_move h.2.1 (fun k hk' => hk k hk' (own_lt h.2.1 k hk')), h.2.2⟩

structure SpAt (w W : World) (b1 b2 : Bool) (A B : Option Addr) (m n c d : Nat) (Sb Lb : Value) (st lim : Option (List Int)) : Prop where
  below : Below w.heap.size w W
  arg : W.heap[w.heap.size]? = some (.cells #[.bool b1, .bool b2, .slice A m c, .slice B n d] 61 (0, 0))
  rg : W.heap[w.heap.size + 1]? = some (.cells #[Sb, Lb] 192 (0, 0))
  s : Cp (w.heap.size + 2) W Sb st
  l : Cp (w.heap.size + 2) W Lb lim

theorem SpAt.new (w : World) (b1 b2 : Bool) (A B : Option Addr) (m n c d : Nat) : SpAt w ((w.alloc (.cells #[.bool b1, .bool b2, .slice A m c, .slice B n d] 61)).alloc (.cells #[.slice none 0 0, .slice none 0 0] 192)) b1 b2 A B m n c d nilS nilS none none := by
  have h1 := below_alloc (Below.refl w.heap.size w) (.cells #[.bool b1, .bool b2, .slice A m c, .slice B n d] 61)
  have n1 := blk_new w (.cells #[.bool b1, .bool b2, .slice A m c, .slice B n d] 61)
  have n2 := blk_new (w.alloc (.cells #[.bool b1, .bool b2, .slice A m c, .slice B n d] 61)) (.cells #[.slice none 0 0, .slice none 0 0] 192)
  simp only [World.size_alloc] at n2
  exact ⟨h1.alloc h1.size _, ((below_alloc (Below.refl _ _) _).block _ (blk_lt n1)).trans n1, n2, rfl, rfl⟩

section
variable {w W W1 : World} {b1 b2 : Bool} {A B : Option Addr} {m n c d : Nat} {Sb Lb v : Value} {st lim : Option (List Int)} {l : List Int}

theorem Cp.ne {base : Nat} {W : World} {v : Value} {b : Option (List Int)} (h : Cp base W v b) : ∀ g, v.ownBlock = some g → base ≤ g := by
  cases b with
  | none => intro g hg; rw [show v = nilS from h] at hg; cases hg
  | some l => intro g hg; exact own_base h.2.1 g hg

theorem Cp.lt {base : Nat} {W : World} {v : Value} {b : Option (List Int)} (h : Cp base W v b) : ∀ g, v.ownBlock = some g → g < W.heap.size := by
  cases b with
  | none => intro g hg; rw [show v = nilS from h] at hg; cases hg
  | some l => intro g hg; exact own_lt h.2.1 g hg

theorem cp_new {base e n : Nat} {W1 : World} {v : Value} {l : List Int} (hb : Byt l) (ho : W1.ownsRow base 5 1 v l.length (nums .u8 l)) (hat : v.ownBlock = (Value.slice (some ⟨e, 0, none⟩) 0 0).ownBlock ∨ ∃ b, v.ownBlock = some b ∧ n ≤ b) : Cp base W1 v (some l) := by
  refine ⟨hb, ho, ?_⟩
  rcases hat with h | ⟨b, h, _⟩
  · exact ⟨e, h⟩
  · exact ⟨b, h⟩

theorem SpAt.size (h : SpAt w W b1 b2 A B m n c d Sb Lb st lim) : w.heap.size + 2 ≤ W.heap.size := blk_lt h.rg

theorem SpAt.emp (h : SpAt w W b1 b2 A B m n c d Sb Lb st lim) (t : TypeId) : SpAt w (W.alloc (.cells #[] t)) b1 b2 A B m n c d Sb Lb st lim := by
  have hb := below_alloc (Below.refl W.heap.size W) (.cells #[] t)
  exact ⟨h.below.trans (hb.mono h.below.size), (hb.block _ (blk_lt h.arg)).trans h.arg, (hb.block _ (blk_lt h.rg)).trans h.rg, h.s.keep (fun g _ hg => hb.block g hg), h.l.keep (fun g _ hg => hb.block g hg)⟩

theorem SpAt.grown {e : Nat} (h : SpAt w W b1 b2 A B m n c d Sb Lb st lim) (he : w.heap.size + 2 ≤ e) (hs : ∀ g, Sb.ownBlock = some g → g ≠ e) (hl : ∀ g, Lb.ownBlock = some g → g ≠ e) (hg : W.grownBy W1 (some e)) : SpAt w W1 b1 b2 A B m n c d Sb Lb st lim := by
  have hb := blk_lt h.arg
  have hr := blk_lt h.rg
  exact ⟨h.below.grown hg (Nat.le_of_lt hb) (fun g hg => by injection hg with hg; omega), (hg.block _ hb (fun q => by injection q with q; omega)).trans h.arg, (hg.block _ hr (fun q => by injection q with q; omega)).trans h.rg,
    h.s.keep (fun g q hlt => hg.block g hlt (fun r => by injection r with r; exact hs g q r)), h.l.keep (fun g q hlt => hg.block g hlt (fun r => by injection r with r; exact hl g q r))⟩

theorem SpAt.setS (h : SpAt w W b1 b2 A B m n c d Sb Lb st lim) (hv : Cp (w.heap.size + 2) W v (some l)) : SpAt w (W.setCell ⟨w.heap.size + 1, 0, none⟩ v) b1 b2 A B m n c d v Lb (some l) lim := by
  have hs := h.size
  refine ⟨h.below.setCell (Nat.le_succ _) _, (Below.heap_setCell _ _ _ _ (by simp)).trans h.arg, blk_set h.rg 0 v, hv.keep (fun g hg _ => Below.heap_setCell _ _ _ _ ?_), h.l.keep (fun g hg _ => Below.heap_setCell _ _ _ _ ?_)⟩
  · have := hv.ne g hg
    show g ≠ w.heap.size + 1
    omega
  · have := h.l.ne g hg
    show g ≠ w.heap.size + 1
    omega
theorem SpAt.setL (h : SpAt w W b1 b2 A B m n c d Sb Lb st lim) (hv : Cp (w.heap.size + 2) W v (some l)) : SpAt w (W.setCell ⟨w.heap.size + 1, 1, none⟩ v) b1 b2 A B m n c d Sb v st (some l) := by
  have hs := h.size
  refine ⟨h.below.setCell (Nat.le_succ _) _, (Below.heap_setCell _ _ _ _ (by simp)).trans h.arg, blk_set h.rg 1 v, h.s.keep (fun g hg _ => Below.heap_setCell _ _ _ _ ?_), hv.keep (fun g hg _ => Below.heap_setCell _ _ _ _ ?_)⟩
  · have := h.s.ne g hg
    show g ≠ w.heap.size + 1
    omega
  · have := hv.ne g hg
    show g ≠ w.heap.size + 1
    omega
end

def optL (b : Bool) (l : List Int) : Option (List Int) := if b then some l else none

set_option maxHeartbeats 3200000 in
theorem span_calls (b1 b2 : Bool) (A B : Option Addr) (c d : Nat) (l1 l2 : List Int) (w : World) (hA : Kd.C (Kd.int .u8) w A l1.length l1) (hB : Kd.C (Kd.int .u8) w B l2.length l2) (h1 : Byt l1) (h2 : Byt l2) (hl1 : l1.length ≤ 4294967296) (hl2 : l2.length ≤ 4294967296) :
    Calls Tryz.prog 67 #[.agg #[.bool b1, .bool b2, .slice A l1.length c, .slice B l2.length d]] w fun e w' => e = .returned (.pointer (some ⟨w.heap.size + 1, 0, none⟩)) ∧ ∃ Sb Lb, SpAt w w' b1 b2 A B l1.length l2.length c d Sb Lb (optL b1 l1) (optL b2 l2) := by
  have HS := Lib.hid (SpAt.new w b1 b2 A B l1.length l2.length c d)
  have HA := Lib.hid (And.intro hA (And.intro hB (And.intro h1 (And.intro h2 (And.intro hl1 hl2)))))
  clear hA hB h1 h2 hl1 hl2
  go_enter Tryz.func67, Tryz.ntmps67
  go_upto_region 2 with (fail)
  generalize (w.alloc (Obj.cells #[Value.bool b1, Value.bool b2, Value.slice A l1.length c, Value.slice B l2.length d] 61)).alloc (Obj.cells #[Value.slice none 0 0, Value.slice none 0 0] 192) = W at *
  cases b1
  · have a0 : W.cell? ⟨w.heap.size, 0, none⟩ = some (.bool false) := (blk_cell HS.out.arg 0).trans rfl
    cases b2
    · have a1 : W.cell? ⟨w.heap.size, 1, none⟩ = some (.bool false) := (blk_cell HS.out.arg 1).trans rfl
      go_wp2
      go_ret
      exact ⟨rfl, nilS, nilS, HS.out⟩
    · have a1 : W.cell? ⟨w.heap.size, 1, none⟩ = some (.bool true) := (blk_cell HS.out.arg 1).trans rfl
      have HE3 := Lib.hid (HS.out.emp 5)
      have he3 := blk_new W (.cells #[] 5)
      have e3 : (W.alloc (.cells #[] 5)).cell? ⟨w.heap.size, 3, none⟩ = some (.slice B l2.length d) := (blk_cell HE3.out.arg 3).trans rfl
      have HAW3 := Lib.hid (Kd.C_below HA.out.2.1 HE3.out.below)
      have HB3 := Lib.hid (And.intro HS.out.size (And.intro HA.out.2.2.2.1 HA.out.2.2.2.2.2))
      go_wp2_with (at_builtin; go_loud (refine print_append_row (w.heap.size + 2) rfl (.tmp 18) (.tmp 20) 25 5 .u8 1 rfl Tryz.underlying25 info_u8 (by decide) _ [] l2 _ _ _ rfl rfl (own_empty he3 HB3.out.1) (C_ints HAW3.out) (Below.refl _ _) HE3.out.size (by have := HB3.out.2.2; simp; omega) ?_); rw [List.nil_append]; intro v3 w3 ho hb hg hat; obtain ⟨A3, c3, rfl⟩ := own_slice ho; have HG3 := Lib.hid (HE3.out.grown HB3.out.1 (fun g q => by cases q) (fun g q => by cases q) hg); have HC3 := Lib.hid (cp_new HB3.out.2.1 ho hat); have s3 : w3.cell? ⟨w.heap.size + 1, 1, none⟩ = some (.slice none 0 0) := (blk_cell HG3.out.rg 1).trans rfl; have t3 := blk_frozen HG3.out.rg 1; clear ho hb hg hat)
      go_ret
      exact ⟨rfl, nilS, _, HG3.out.setL HC3.out⟩
  · have a0 : W.cell? ⟨w.heap.size, 0, none⟩ = some (.bool true) := (blk_cell HS.out.arg 0).trans rfl
    cases b2
    · have HE2 := Lib.hid (HS.out.emp 5)
      have he2 := blk_new W (.cells #[] 5)
      have e2 : (W.alloc (.cells #[] 5)).cell? ⟨w.heap.size, 2, none⟩ = some (.slice A l1.length c) := (blk_cell HE2.out.arg 2).trans rfl
      have HAW2 := Lib.hid (Kd.C_below HA.out.1 HE2.out.below)
      have HB2 := Lib.hid (And.intro HS.out.size (And.intro HA.out.2.2.1 HA.out.2.2.2.2.1))
      go_wp2_with (at_builtin; go_loud (refine print_append_row (w.heap.size + 2) rfl (.tmp 9) (.tmp 11) 25 5 .u8 1 rfl Tryz.underlying25 info_u8 (by decide) _ [] l1 _ _ _ rfl rfl (own_empty he2 HB2.out.1) (C_ints HAW2.out) (Below.refl _ _) HE2.out.size (by have := HB2.out.2.2; simp; omega) ?_); rw [List.nil_append]; intro v2 w2 ho hb hg hat; obtain ⟨A2, c2, rfl⟩ := own_slice ho; have HG2 := Lib.hid (HE2.out.grown HB2.out.1 (fun g q => by cases q) (fun g q => by cases q) hg); have HC2 := Lib.hid (cp_new HB2.out.2.1 ho hat); have s2 : w2.cell? ⟨w.heap.size + 1, 0, none⟩ = some (.slice none 0 0) := (blk_cell HG2.out.rg 0).trans rfl; have t2 := blk_frozen HG2.out.rg 0; clear ho hb hg hat; have a1 : w2.cell? ⟨w.heap.size, 1, none⟩ = some (.bool false) := (blk_cell HG2.out.arg 1).trans rfl)
      go_ret
      exact ⟨rfl, _, nilS, HG2.out.setS HC2.out⟩
    · have HE2 := Lib.hid (HS.out.emp 5)
      have he2 := blk_new W (.cells #[] 5)
      have e2 : (W.alloc (.cells #[] 5)).cell? ⟨w.heap.size, 2, none⟩ = some (.slice A l1.length c) := (blk_cell HE2.out.arg 2).trans rfl
      have HAW2 := Lib.hid (Kd.C_below HA.out.1 HE2.out.below)
      have HB2 := Lib.hid (And.intro HS.out.size (And.intro HA.out.2.2.1 HA.out.2.2.2.2.1))
      go_wp2_with (first | (at_builtin; go_loud (refine print_append_row (w.heap.size + 2) rfl (.tmp 9) (.tmp 11) 25 5 .u8 1 rfl Tryz.underlying25 info_u8 (by decide) _ [] l1 _ _ _ rfl rfl (own_empty he2 HB2.out.1) (C_ints HAW2.out) (Below.refl _ _) HE2.out.size (by have := HB2.out.2.2; simp; omega) ?_); rw [List.nil_append]; intro v2 w2 ho hb hg hat; obtain ⟨A2, c2, rfl⟩ := own_slice ho; have HG2 := Lib.hid (HE2.out.grown HB2.out.1 (fun g q => by cases q) (fun g q => by cases q) hg); have HC2 := Lib.hid (cp_new HB2.out.2.1 ho hat); have s2 : w2.cell? ⟨w.heap.size + 1, 0, none⟩ = some (.slice none 0 0) := (blk_cell HG2.out.rg 0).trans rfl; have t2 := blk_frozen HG2.out.rg 0; clear ho hb hg hat; have a1 : w2.cell? ⟨w.heap.size, 1, none⟩ = some (.bool true) := (blk_cell HG2.out.arg 1).trans rfl; have HT := Lib.hid (HG2.out.setS HC2.out); have HE3 := Lib.hid (HT.out.emp 5); have he3 := blk_new (w2.setCell ⟨w.heap.size + 1, 0, none⟩ (.slice A2 l1.length c2)) (.cells #[] 5); rw [World.size_setCell] at he3; have e3 : ((w2.setCell ⟨w.heap.size + 1, 0, none⟩ (.slice A2 l1.length c2)).alloc (.cells #[] 5)).cell? ⟨w.heap.size, 3, none⟩ = some (.slice B l2.length d) := (blk_cell HE3.out.arg 3).trans rfl; have HAW3 := Lib.hid (Kd.C_below HA.out.2.1 HE3.out.below); have HB3 := Lib.hid (And.intro HG2.out.size (And.intro HA.out.2.2.2.1 HA.out.2.2.2.2.2))) | (at_builtin; go_loud (refine print_append_row (w.heap.size + 2) rfl (.tmp 18) (.tmp 20) 25 5 .u8 1 rfl Tryz.underlying25 info_u8 (by decide) _ [] l2 _ _ _ rfl rfl (own_empty he3 HB3.out.1) (C_ints HAW3.out) (Below.refl _ _) HE3.out.size (by have := HB3.out.2.2; simp; omega) ?_); rw [List.nil_append]; intro v3 w3 ho hb hg hat; obtain ⟨A3, c3, rfl⟩ := own_slice ho; have HG3 := Lib.hid (HE3.out.grown HB3.out.1 (fun g q => by have := HT.out.s.lt g q; rw [World.size_setCell] at this; omega) (fun g q => by cases q) hg); have HC3 := Lib.hid (cp_new HB3.out.2.1 ho hat); have s3 : w3.cell? ⟨w.heap.size + 1, 1, none⟩ = some (.slice none 0 0) := (blk_cell HG3.out.rg 1).trans rfl; have t3 := blk_frozen HG3.out.rg 1; clear ho hb hg hat))
      go_ret
      exact ⟨rfl, _, _, HG3.out.setL HC3.out⟩

end Go.Proofs.YtdkkkikcigjlhaaGreatDoor.Md

namespace Go.Proofs.YtdkkkikcigjlhaaGreatDoor.Md
open Go.RowKit Go.Proofs.YtdkkkikcigjlhaaGreatDoor.Con Go.Proofs.YtdkkkikcigjlhaaGreatDoor.Run Go.Proofs.YtdkkkikcigjlhaaGreatDoorW.PrintWords Go.Proofs.YtdkkkikcigjlhaaGreatDoorW.PrintMore Go.Proofs.YtdkkkikcigjlhaaGreatDoor.Cmp Go.Sort Go.RwLone Go.Proofs.YtdkkkikcigjlhaaGreatDoor.PFnMemMap

def putL (f : List Int → List Int → Int) (key val : List Int) : List KV → List KV
  | [] => [(key, val)]
  | x :: r => if f x.1 key < 0 then x :: putL f key val r else if f x.1 key = 0 then (key, val) :: r else (key, val) :: x :: r

def kvsL (ns : List Node) : List KV := ns.map fun x => (x.key, x.val)

theorem putL_ahead (f : List Int → List Int → Int) (key val : List Int) : ∀ (A B : List KV), (∀ x ∈ A, f x.1 key < 0) → putL f key val (A ++ B) = A ++ putL f key val B := by
  intro A
  induction A with
  | nil => intro B _; rfl
  | cons x A ih =>
    intro B h
    have := h x (by simp)
    simp only [List.cons_append, putL, if_pos this, ih B (fun y hy => h y (by simp [hy]))]

theorem PutNs.kvs {f : List Int → List Int → Int} (ho : Ord f) {P R ns' : List Node} {key val : List Int} (hP : ∀ x ∈ P, f x.key key < 0) (hR : ∀ x ∈ R, 0 ≤ f x.key key) (h : PutNs f P R key val ns') : kvsL ns' = putL f key val (kvsL (P ++ R)) := by
  have hA : ∀ x ∈ kvsL P, f x.1 key < 0 := by
    intro x hx
    obtain ⟨y, hy, rfl⟩ := List.mem_map.1 hx
    exact hP y hy
  have e : kvsL (P ++ R) = kvsL P ++ kvsL R := List.map_append
  rw [e, putL_ahead f key val _ _ hA]
  cases h with
  | hit x R' hx h0 =>
    subst hx
    have hk := (ho.zero x.key key).1 h0
    have hz := ho.refl key
    simp [kvsL, putL, hk, hz]
  | new a h hm =>
    cases R with
    | nil => simp [kvsL, putL]
    | cons x R =>
      have h1 := hR x (by simp)
      have h2 : ¬ f x.key key = 0 := fun q => hm ⟨x, R, rfl, q⟩
      have h3 : ¬ f x.key key < 0 := by omega
      simp [kvsL, putL, h2, h3]

theorem rangeL_kvs (f : List Int → List Int → Int) (st lim : Option (List Int)) (ns : List Node) : rangeL f st lim ns = (kvsL ns).filter fun x => over f st x.1 && under f lim x.1 := by
  unfold rangeL kvsL
  rw [List.filter_map]
  rfl

def putsL (f : List Int → List Int → Int) (l : List S44) : List KV := l.foldl (fun a x => putL f x.f0 x.f1 a) []

theorem putsL_snoc (f : List Int → List Int → Int) (l : List S44) (x : S44) : putsL f (l ++ [x]) = putL f x.f0 x.f1 (putsL f l) := by
  unfold putsL
  rw [List.foldl_append]
  rfl

theorem putL_all {f : List Int → List Int → Int} {p : KV → Prop} {key val : List Int} (hp : p (key, val)) : ∀ (L : List KV), (∀ x ∈ L, p x) → ∀ x ∈ putL f key val L, p x := by
  intro L
  induction L with
  | nil => intro _ x hx; simp only [putL, List.mem_singleton] at hx; subst hx; exact hp
  | cons y r ih =>
    intro h x hx
    unfold putL at hx
    split at hx
    · rcases List.mem_cons.1 hx with rfl | hx
      · exact h _ (by simp)
      · exact ih (fun z hz => h z (by simp [hz])) x hx
    · split at hx
      · rcases List.mem_cons.1 hx with rfl | hx
        · exact hp
        · exact h x (by simp [hx])
      · rcases List.mem_cons.1 hx with rfl | hx
        · exact hp
        · exact h x hx

theorem putsL_all {f : List Int → List Int → Int} {p : KV → Prop} (l : List S44) (h : ∀ x ∈ l, p (x.f0, x.f1)) : ∀ x ∈ putsL f l, p x := by
  have : ∀ (l : List S44) (L : List KV), (∀ x ∈ L, p x) → (∀ x ∈ l, p (x.f0, x.f1)) → ∀ x ∈ l.foldl (fun a x => putL f x.f0 x.f1 a) L, p x := by
    intro l
    induction l with
    | nil => intro L hL _; exact hL
    | cons y r ih => intro L hL hl; exact ih _ (putL_all (hl y (by simp)) L hL) (fun z hz => hl z (by simp [hz]))
  exact this l [] (by simp) h

theorem N_low {α : Type} {d : Kd α} {e base base' : Nat} {w : World} {ok : Nat → Prop} {v : Value} {xs : List α} (h : Kd.N d e w base ok v xs) (hb : base' ≤ base) : Kd.N d e w base' ok v xs := by
  obtain ⟨h0, rows, hl, ⟨g0, inner, ho, hr⟩, hx⟩ := h
  exact ⟨h0, rows, hl, ⟨g0, inner, own_weaken ho hb, hr⟩, hx⟩

def totS : List S44 → Nat
  | [] => 0
  | x :: r => x.f0.length + x.f1.length + totS r

theorem totS_snoc (l : List S44) (x : S44) : totS (l ++ [x]) = totS l + x.f0.length + x.f1.length := by
  induction l with
  | nil => simp [totS]
  | cons y r ih => simp only [List.cons_append, totS, ih]; omega

theorem totS_take (l : List S44) : ∀ j, totS (l.take j) ≤ totS l := by
  induction l with
  | nil => intro j; simp [totS]
  | cons y r ih =>
    intro j
    cases j with
    | zero => simp [totS]
    | succ j =>
      have := ih j
      simp only [List.take_succ_cons, totS]
      omega

structure Puts (w W : World) (p : Nat) (V : Value) (f : List Int → List Int → Int) (l : List S44) (D : MemD) (ns : List Node) : Prop where
  M : Mem D W w.heap.size p V f ns (totS l) (16 + 16 * l.length)
  kv : kvsL ns = putsL f l
  below : Below w.heap.size w W

section
variable {w W W1 : World} {p : Nat} {V : Value} {f : List Int → List Int → Int} {l : List S44} {D : MemD} {ns : List Node}

theorem Puts.then_below (h : Puts w W p V f l D ns) (hb : Below W.heap.size W W1) : Puts w W1 p V f l D ns :=
  ⟨h.M.below hb, h.kv, h.below.trans (hb.mono h.below.size)⟩

theorem below_fr {B : Nat} {a b c : World} {S : Nat → Prop} (h : Below B a b) (hB : B ≤ b.heap.size) (g : Fr b c S) (hS : ∀ k, S k → B ≤ k) : Below B a c :=
  ⟨g.os.trans h.os, g.tape.trans h.tape, g.output.trans h.output, Nat.le_trans h.size g.size, fun k hk => (g.block k (Nat.lt_of_lt_of_le hk hB) (fun q => by have := hS k q; omega)).trans (h.block k hk)⟩

theorem Puts.put {A0 B0 : Option Addr} {ca cb : Nat} {x : S44} (h : Puts w W p V f l D ns) (ht : totS (l ++ [x]) ≤ 1099511627776) (hl : 16 + 16 * (l ++ [x]).length ≤ 1099511627776) {ok : Nat → Prop}
    (hA : Kd.F (Kd.int .u8) W ok A0 x.f0.length x.f0) (hB : Kd.F (Kd.int .u8) W ok B0 x.f1.length x.f1) (hok : ∀ k, ok k → ¬ w.heap.size ≤ k) (hk : Byt x.f0) (hv : Byt x.f1) :
    Calls Tryz.prog 66 #[.pointer (some ⟨p, 0, none⟩), .slice A0 x.f0.length ca, .slice B0 x.f1.length cb] W fun e w' => e = .returned .nilIface ∧ ∃ D' ns', Hid (Puts w w' p V f (l ++ [x]) D' ns') := by
  have e1 : totS (l ++ [x]) = totS l + x.f0.length + x.f1.length := totS_snoc l x
  have e2 : 16 + 16 * (l ++ [x]).length = 16 + 16 * l.length + 16 := by rw [List.length_append, List.length_singleton]; omega
  rw [e1] at ht
  rw [e2] at hl
  refine (h.M.put ht hl (Kd.F_now hA) (Kd.F_now hB) (fun hp a ha ho => hok _ (Kd.F_in hA ha hp (by decide)) (h.M.far _ ho)) (fun hp a ha ho => hok _ (Kd.F_in hB ha hp (by decide)) (h.M.far _ ho)) hk hv).mono ?_
  rintro e w' ⟨rfl, D', ns', P, R, hM, hS, hns, hP, hR, hN⟩
  refine ⟨rfl, D', ns', Lib.hid ⟨?_, ?_, ?_⟩⟩
  · rw [e1, e2]
    exact hM
  · rw [hN.kvs h.M.cm.ord hP hR, putsL_snoc, ← h.kv, hns]
  · exact below_fr h.below h.below.size hS.fr (fun k hk => h.M.far k hk)
end

theorem Cp.bd {base : Nat} {W : World} {v : Value} {b : Option (List Int)} (h : Cp base W v b) : Bd W v b := by
  cases b with
  | none => exact h
  | some l =>
    obtain ⟨h1, h2, g, hg⟩ := h
    obtain ⟨A, c, rfl⟩ := own_slice h2
    cases A with
    | none => cases hg
    | some a => exact ⟨a, c, rfl, ints_C (own_reads' h2), h1⟩

theorem DbSt.fresh {w0 W W2 : World} {p : Nat} {V : Value} {f : List Int → List Int → Int} {l : List S44} {D : MemD} {ns : List Node} {b1 b2 : Bool} {A B : Option Addr} {m n c d : Nat} {Sb Lb : Value} {st lim : Option (List Int)} (h : Puts w0 W p V f l D ns) (hS : SpAt W W2 b1 b2 A B m n c d Sb Lb st lim) :
    DbSt w0.heap.size p V f ns (totS l) (16 + 16 * l.length) W2.heap.size (.pointer (some ⟨W.heap.size + 1, 0, none⟩)) st lim w0.heap.size (W2.heap.size + 1) (W2.alloc (.cells (newIt p (.pointer (some ⟨W.heap.size + 1, 0, none⟩))) 153)) (-1) (fun k => w0.heap.size ≤ k ∧ k < W2.heap.size + 1) := by
  have h2 := h.then_below hS.below
  have hsz := hS.size
  have hb := below_alloc (Below.refl W2.heap.size W2) (.cells (newIt p (.pointer (some ⟨W.heap.size + 1, 0, none⟩))) 153)
  have h3 := h2.then_below hb
  have hlt : ∀ k, D.own p k → k < W.heap.size := fun k hk => h.M.inside k hk
  have hw := h.below.size
  have hblk : ∀ g, g < W2.heap.size → (W2.alloc (.cells (newIt p (.pointer (some ⟨W.heap.size + 1, 0, none⟩))) 153)).heap[g]? = W2.heap[g]? := fun g hg => hb.block g hg
  have hrg := (hblk _ (blk_lt hS.rg)).trans hS.rg
  have hs3 := hS.s.keep (fun g _ hg => hblk g hg)
  have hl3 := hS.l.keep (fun g _ hg => hblk g hg)
  have hok : ∀ (v : Value) (b : Option (List Int)), Cp (W.heap.size + 2) W2 v b → ∀ (l : List Int) a c, b = some l → v = .slice (some a) l.length c → D.apart p W2.heap.size a.block ∧ (w0.heap.size ≤ a.block ∧ a.block < W2.heap.size + 1) := by
    intro v b hcp l a c hbl hv
    subst hbl
    subst hv
    obtain ⟨h1, h2, g, hg⟩ := hcp
    have hge := own_base h2
    have hle := own_lt h2
    have hga : (Value.slice (some a) l.length c).ownBlock = some a.block := by
      rcases h2.2 with ⟨q, _⟩ | ⟨g, cap, cur, q, _⟩
      · cases q
      · rw [q]; injection q with q1; injection q1 with q1; rw [q1]; rfl
    have q1 := hge _ hga
    have q2 := hle _ hga
    exact ⟨⟨by omega, fun q => by have := hlt _ q; omega⟩, by omega, by omega⟩
  have hR2 : Rg2 (W2.alloc (.cells (newIt p (.pointer (some ⟨W.heap.size + 1, 0, none⟩))) 153)) (fun k => D.apart p W2.heap.size k ∧ (w0.heap.size ≤ k ∧ k < W2.heap.size + 1)) (.pointer (some ⟨W.heap.size + 1, 0, none⟩)) st lim :=
    .inr ⟨W.heap.size + 1, Sb, Lb, rfl, ⟨⟨by omega, fun q => by have := hlt _ q; omega⟩, by omega, by omega⟩, (blk_cell hrg 0).trans rfl, (blk_cell hrg 1).trans rfl, hs3.bd, hl3.bd, fun l a c e1 e2 => hok Sb st hS.s l a c e1 e2, fun l a c e1 e2 => hok Lb lim hS.l l a c e1 e2⟩
  refine ⟨rfl, D, false, none, ⟨h3.M, ⟨_, blk_new W2 _, ⟨rfl, rfl, rfl, rfl, rfl, rfl, rfl, rfl, rfl, rfl⟩⟩, (fun x q => by cases q), hR2.mono (fun k q => q.1), fun q => by have := hlt _ q; omega⟩, .inr ⟨rfl, rfl⟩, fun k hk => ⟨h.M.far k hk, by have := hlt k hk; omega⟩, by omega, hR2, by rw [World.size_alloc]; exact Nat.le_refl _⟩

set_option maxHeartbeats 6400000 in
set_option maxRecDepth 100000 in
theorem MemWalk_calls {w : World} {o : Int} {ok ok2 : Nat → Prop} {A Am As Al : Option Addr} {c cm cs cl : Nat} {l : List S44} {ms : List S104} {b1 b2 : Bool} {st lim : List Int} {f : List Int → List Int → Int}
    (hV : Cmpr (ordV o) f) (hA : Kd.F k44 w ok A l.length l) (hb : ∀ x ∈ l, Byt x.f0 ∧ Byt x.f1) (hok : ∀ k, ok k → ¬ w.heap.size ≤ k) (htot : totS l ≤ 1099511627776) (hlen : l.length ≤ 4294967296)
    (hsS : Kd.C (Kd.int .u8) w As st.length st) (hsL : Kd.C (Kd.int .u8) w Al lim.length lim) (hbS : Byt st) (hbL : Byt lim) (hlS : st.length ≤ 4294967296) (hlL : lim.length ≤ 4294967296)
    (hM : Kd.F k104 w ok2 Am ms.length ms) (hbM : ∀ m ∈ ms, Byt m.f1) (hok2 : ∀ k, ok2 k → ¬ w.heap.size ≤ k) (hlM : ms.length ≤ 4294967296) (hkv : ∀ x ∈ l, x.f0.length ≤ 4294967296 ∧ x.f1.length ≤ 4294967296) :
    Calls Tryz.prog 33 #[.int .i64 o, .slice A l.length c, .agg #[.bool b1, .bool b2, .slice As st.length cs, .slice Al lim.length cl], .slice Am ms.length cm] w fun e w' => ∃ v, e = .returned v ∧ Kd.N k121 121 w' w.heap.size (fun k => w.heap.size ≤ k) v (atsL f ((putsL f l).filter fun x => over f (optL b1 st) x.1 && under f (optL b2 lim) x.1) (-1) ms) ∧ Below w.heap.size w w' := by
  obtain ⟨T, hT⟩ : ∃ T, ordV o = .iface T (.agg #[]) := by
    unfold ordV
    split
    · exact ⟨_, rfl⟩
    · split
      · exact ⟨_, rfl⟩
      · exact ⟨_, rfl⟩
  have HT := Lib.hid (And.intro hT hV)
  have HSL := Lib.hid (And.intro hsS (And.intro hsL (And.intro hbS (And.intro hbL (And.intro hlS hlL)))))
  have HMS := Lib.hid (And.intro hM (And.intro hbM (And.intro hok2 (And.intro hlM hkv))))
  clear hT hV hsS hsL hbS hbL hlS hlL hM hbM hok2 hlM hkv
  generalize hn : l.length = n at *
  have HN := Lib.hid hn
  have HL := Lib.hid (And.intro htot hlen)
  clear hn htot hlen
  have HA := Lib.hid (And.intro hA (And.intro hb hok))
  clear hA hb hok
  go_enter Tryz.func33, Tryz.ntmps33
  go_wp2_with (first
    | (go_at_call 58; (with_reducible refine (orderOf_calls _ _).mono ?_); rintro e w1 ⟨rfl, rfl⟩)
    | (go_at_call 65; (with_reducible refine (Mem_new HT.out.1 HT.out.2).mono ?_); rintro e w1 ⟨p, D, rfl, hM, hB⟩; have HM := Lib.hid (show Puts (w.alloc (.cells #[.bool b1, .bool b2, .slice As st.length cs, .slice Al lim.length cl] 61)) w1 p (ordV o) f [] D [] from ⟨hM, rfl, hB⟩); clear hM hB))

  have HB0 := Lib.hid (below_alloc (Below.refl w.heap.size w) (.cells #[.bool b1, .bool b2, .slice As st.length cs, .slice Al lim.length cl] 61))
  have HS0 := Lib.hid (blk_new w (.cells #[.bool b1, .bool b2, .slice As st.length cs, .slice Al lim.length cl] 61))
  have hsz : (w.alloc (.cells #[.bool b1, .bool b2, .slice As st.length cs, .slice Al lim.length cl] 61)).heap.size = w.heap.size + 1 := World.size_alloc _ _
  have HSZ := Lib.hid hsz
  clear hsz
  generalize w.alloc (.cells #[.bool b1, .bool b2, .slice As st.length cs, .slice Al lim.length cl] 61) = w0 at *
  go_loopg [17] n (fun k v17 w' => ∃ (j : Nat) (D' : MemD) (ns' : List Node), v17 = .int .i64 (j : Int) ∧ Hid (j ≤ n ∧ n ≤ j + k) ∧ Hid (Puts w0 w' p (ordV o) f (l.take j) D' ns'))
  case atStart => exact ⟨0, D, [], rfl, Lib.hid ⟨Nat.zero_le _, by omega⟩, HM⟩
  case round =>
    obtain ⟨j, D', ns', rfl, HJ, HP⟩ := hrel
    by_cases hj : j < n
    · have hlt0 : ∀ k, ok k → k < w.heap.size := fun k hk => Nat.lt_of_not_le (HA.out.2.2 k hk)
      have hFr : Kd.F k44 wr ok A n l := Kd.F_step (Kd.F_below HA.out.1 HB0.out) (fun k ho hk => HP.out.below.block k (by have := hlt0 k ho; have := HSZ.out; omega))
      obtain ⟨ad, cs', rfl, hcl, hK, hcell, hokb⟩ := Kd.F_get hFr (⟨[], []⟩ : S44) (j : Int) (Int.natCast_nonneg _) (by omega)
      obtain ⟨A1, c1, A2, c2, rfl, hl1, hF1, hl2, hF2⟩ := k44_openF hK
      have r0 := hcell 0 _ rfl
      have r1 := hcell 1 _ rfl
      rw [Int.toNat_natCast] at r0 r1
      have e2 : j * k44.sz + 0 = j * 2 := rfl
      have e3 : j * k44.sz + 1 = j * 2 + 1 := rfl
      rw [e2] at r0
      rw [e3, add_field ad (j * 2) 1 (by omega)] at r1
      rw [Int.toNat_natCast] at hF1 hF2
      have hmem : l.getD j (⟨[], []⟩ : S44) ∈ l := by
        rw [List.getD_eq_getElem?_getD, List.getElem?_eq_getElem (by rw [HN.out]; exact hj)]
        exact List.getElem_mem _
      have htk := take_next (l := l) (i := j) (by rw [HN.out]; exact hj) (⟨[], []⟩ : S44)
      have hto := totS_take l (j + 1)
      have hln : (l.take (j + 1)).length = j + 1 := by rw [List.length_take, HN.out]; omega
      have HTK := Lib.hid htk
      rw [htk] at hto hln
      have HBY := Lib.hid (HA.out.2.1 _ hmem)
      generalize l.getD j (⟨[], []⟩ : S44) = x at *
      have HF1 := Lib.hid hF1
      have HF2 := Lib.hid hF2
      have HTO := Lib.hid (And.intro hto hln)
      have z0 : decide ((j : Int) < (n : Int)) = true := decide_eq_true (by omega)
      clear hF1 hF2 hcell hK hcl e2 e3 hmem hFr hokb hl1 hl2 htk hto hln hlt0
      go_upto_region 5 with (fail)
      have hb1 := below_alloc (Below.refl wr.heap.size wr) (.cells #[.slice A1 x.f0.length c1, .slice A2 x.f1.length c2] 44)
      have k0 : (wr.alloc (.cells #[.slice A1 x.f0.length c1, .slice A2 x.f1.length c2] 44)).cell? ⟨wr.heap.size, 0, none⟩ = some (.slice A1 x.f0.length c1) := (blk_cell (blk_new wr _) 0).trans rfl
      have k1 : (wr.alloc (.cells #[.slice A1 x.f0.length c1, .slice A2 x.f1.length c2] 44)).cell? ⟨wr.heap.size, 1, none⟩ = some (.slice A2 x.f1.length c2) := (blk_cell (blk_new wr _) 1).trans rfl
      have HP1 := Lib.hid (HP.out.then_below hb1)
      have HPUT := Lib.hid (HP1.out.put (ca := c1) (cb := c2) (Nat.le_trans HTO.out.1 HL.out.1) (by have := HTO.out.2; have := HL.out.2; omega) (Kd.F_below HF1.out hb1) (Kd.F_below HF2.out hb1) (fun k hk => by have := HA.out.2.2 k hk; have := HSZ.out; omega) HBY.out.1 HBY.out.2)
      clear r0 r1 hb1 HP HF1 HF2
      generalize wr.alloc (.cells #[.slice A1 x.f0.length c1, .slice A2 x.f1.length c2] 44) = wq at *
      have HJL := Lib.hid (And.intro hj HJ.out.2)
      have w1' : wrap64 ((j : Int) + 1) = (j : Int) + 1 := wz (by omega) (by have := HL.out.2; omega)
      go_wp2_with (go_at_call 66; (with_reducible refine HPUT.out.mono ?_); rintro e w2 ⟨rfl, D2, ns2, HP2⟩)
      go_roundg (gk - 1)
      case measure => exact round_less HJL.out.1 HJL.out.2
      case rel =>
        refine ⟨j + 1, D2, ns2, (by first | rfl | exact congrArg _ w1'), Lib.hid (round_next HJL.out.1 HJL.out.2), ?_⟩
        rw [HTK.out]
        exact HP2
    · have z0 : decide ((j : Int) < (n : Int)) = false := decide_eq_false (by omega)
      have hjn : j = n := by have := HJ.out.1; omega
      have e : l.take j = l := by rw [hjn, ← HN.out, List.take_length]
      rw [e] at HP
      clear hjn e HJ
      have hst : wr.heap[w.heap.size]? = some (.cells #[.bool b1, .bool b2, .slice As st.length cs, .slice Al lim.length cl] 61 (0, 0)) := (HP.out.below.block _ (by have := HSZ.out; omega)).trans HS0.out
      have t0 : wr.cell? ⟨w.heap.size, 0, none⟩ = some (.bool b1) := (blk_cell hst 0).trans rfl
      have t1 : wr.cell? ⟨w.heap.size, 1, none⟩ = some (.bool b2) := (blk_cell hst 1).trans rfl
      have t2 : wr.cell? ⟨w.heap.size, 2, none⟩ = some (.slice As st.length cs) := (blk_cell hst 2).trans rfl
      have t3 : wr.cell? ⟨w.heap.size, 3, none⟩ = some (.slice Al lim.length cl) := (blk_cell hst 3).trans rfl
      clear hst
      have HBW := Lib.hid (HB0.out.trans (HP.out.below.mono (by have := HSZ.out; omega)))
      go_wp2_with (first
        | (go_at_call 67; (with_reducible refine (span_calls b1 b2 As Al cs cl st lim wr (Kd.C_below HSL.out.1 HBW.out) (Kd.C_below HSL.out.2.1 HBW.out) HSL.out.2.2.1 HSL.out.2.2.2.1 HSL.out.2.2.2.2.1 HSL.out.2.2.2.2.2).mono ?_); rintro e w5 ⟨rfl, Sb, Lb, hsp⟩; have HSP := Lib.hid hsp; clear hsp)
        | (go_at_call 53; (with_reducible refine (NewIterator_calls _ _ _).mono ?_); rintro e w6 ⟨rfl, rfl⟩))
      have hb6 := below_alloc (Below.refl w5.heap.size w5) (.cells (newIt p (.pointer (some ⟨wr.heap.size + 1, 0, none⟩))) 153)
      have hbw5 := HBW.out.trans (HSP.out.below.mono HBW.out.size)
      have HBZ := Lib.hid (hbw5.trans (hb6.mono hbw5.size))
      have HD := Lib.hid (DbSt.fresh HP.out HSP.out)
      have hsz6 : (w5.alloc (.cells (newIt p (.pointer (some ⟨wr.heap.size + 1, 0, none⟩))) 153)).heap.size = w5.heap.size + 1 := World.size_alloc _ _
      have HZ := Lib.hid hsz6
      clear hb6 hbw5 hsz6
      generalize w5.alloc (.cells (newIt p (.pointer (some ⟨wr.heap.size + 1, 0, none⟩))) 153) = w6 at *
      go_at_call 61
      refine (walk_calls (db_iter HL.out.1 (by have := HL.out.2; have := HN.out; omega)) HD.out (Kd.F_below HMS.out.1 HBZ.out) HMS.out.2.1 (fun k hk _ q => by have := HMS.out.2.2.1 k hk; have := HSZ.out; omega) (fun k hk => by have := HMS.out.2.2.1 k hk; have := HBZ.out.size; omega) ?_ HMS.out.2.2.2.1).mono ?_
      · rw [rangeL_kvs, HP.out.kv]
        intro x hx
        exact putsL_all (p := fun x => x.1.length ≤ 4294967296 ∧ x.2.length ≤ 4294967296) l HMS.out.2.2.2.2 x (List.mem_filter.1 hx).1
      rintro e w7 ⟨v, F', rfl, hN, hV⟩
      go_wp2
      go_ret
      refine ⟨v, rfl, ?_, ?_⟩
      · have hr := N_low (Kd.N_mono hN (ok' := fun k => w.heap.size ≤ k) (fun k hk => Nat.le_trans HBZ.out.size hk.1)) HBZ.out.size
        rw [rangeL_kvs, HP.out.kv] at hr
        exact hr
      · exact below_fr HBZ.out HBZ.out.size hV.fr (fun k hk => by have := hk.1; have := HSZ.out; omega)

end Go.Proofs.YtdkkkikcigjlhaaGreatDoor.Md
