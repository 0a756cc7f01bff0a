/- impl's lists of pairs: their methods. An iterator that goes through lists by an index: its cells; its data is set, cleared. Lists one behind the other: places in them, pure. An iterator that goes through lists by an index: its state; its data's moves; no errors. An iterator that goes through lists by an index: Next. An iterator that goes through lists by an index: Next. An iterator that goes through lists by an index: Prev. An iterator that goes through lists by an index: First, Last, Seek. An iterator that goes through lists by an index is a cursor on all their pairs. impl's IndexedWalk. The law FnIndexedWalk, walked: it answers true, whatever the input. FnIndexedWalk's walk, from arguments that are read as data. The memory table as a sorted list: what reads it. -/
import Derived.Test.YtdkkkikcigjlhaaGreatDoorMj31
import Derived.Test.YtdkkkikcigjlhaaGreatDoorMj14
import Derived.Test.YtdkkkikcigjlhaaGreatDoorMj32
import Derived.Test.YtdkkkikcigjlhaaGreatDoorMj25
import Derived.Test.YtdkkkikcigjlhaaGreatDoorMj29
import Derived.Test.YtdkkkikcigjlhaaGreatDoorMj10
set_option linter.unusedVariables false
set_option linter.unusedSimpArgs false
namespace Go.Proofs.YtdkkkikcigjlhaaGreatDoor.Md
open Go.RowKit Go.Proofs.YtdkkkikcigjlhaaGreatDoor.Con Go.Proofs.YtdkkkikcigjlhaaGreatDoor.Run Go.Proofs.YtdkkkikcigjlhaaGreatDoorW.PrintWords Go.Proofs.YtdkkkikcigjlhaaGreatDoorW.PrintMore Go.Proofs.YtdkkkikcigjlhaaGreatDoor.Cmp Go.Sort Go.RwLone Go.Proofs.YtdkkkikcigjlhaaGreatDoor.PFnMemMap

def idCells (I : Value) (pos : Int) : Array Value := #[.nilIface, .bool false, I, .int .i64 pos, .nilIface, I]
abbrev lsI (V : Value) (A : Option Addr) (n c : Nat) : Value := .iface 133 (arrV V A n c)

def ixCells (b : Nat) (dv : Value) : Array Value := #[.nilIface, .bool false, .iface 203 (.pointer (some ⟨b, 0, none⟩)), .bool true, dv, .nilIface, .nilFunc, .bool false]
abbrev ixO (b : Nat) (dv : Value) : Obj := .cells (ixCells b dv) 200 (0, 0)
abbrev idO (I : Value) (pos : Int) : Obj := .cells (idCells I pos) 205 (0, 0)
abbrev dtV (it : Nat) : Value := .iface 161 (.pointer (some ⟨it, 0, none⟩))
def DvB (dv : Value) (k : Nat) : Prop := dv = dtV k
theorem DvB.it {it k : Nat} (h : DvB (dtV it) k) : k = it := by
  unfold DvB at h
  simp only [dtV, Value.iface.injEq, Value.pointer.injEq, Option.some.injEq, Addr.mk.injEq] at h
  exact h.2.1.symm
theorem DvB.nil {k : Nat} (h : DvB .nilIface k) : False := by
  unfold DvB at h
  exact Value.noConfusion h
def DvOk (w : World) (ix : Nat) (dv : Value) : Prop := dv = .nilIface ∨ ∃ it I pos pos2 ka va, dv = dtV it ∧ it ≠ ix ∧ w.heap[it]? = some (.cells (arCells I pos pos2 ka va) 167 (0, 0))

section
variable {w : World} {ix b it : Nat} {dv : Value}

end

end Go.Proofs.YtdkkkikcigjlhaaGreatDoor.Md

namespace Go.Proofs.YtdkkkikcigjlhaaGreatDoor.Md
open Go.Proofs.YtdkkkikcigjlhaaGreatDoor.PFnMemMap

def offL (LL : List (List S44)) (q : Nat) : Nat := (LL.take q).flatten.length
theorem off_zero (LL : List (List S44)) : offL LL 0 = 0 := by simp [offL]
theorem off_cons (x : List S44) (r : List (List S44)) (q : Nat) : offL (x :: r) (q + 1) = x.length + offL r q := by simp [offL]
theorem off_succ : ∀ (LL : List (List S44)) (q : Nat), q < LL.length → offL LL (q + 1) = offL LL q + (LL.getD q []).length := by
  intro LL
  induction LL with
  | nil => intro q h; simp at h
  | cons x r ih =>
    intro q h
    cases q with
    | zero => rw [off_cons, off_zero, off_zero]; simp
    | succ q =>
      rw [off_cons, off_cons, ih q (by simpa using h)]
      simp only [List.getD_cons_succ]
      omega
theorem off_le : ∀ (LL : List (List S44)) (q : Nat), offL LL q ≤ LL.flatten.length := by
  intro LL
  induction LL with
  | nil => intro q; simp [offL]
  | cons x r ih =>
    intro q
    cases q with
    | zero => rw [off_zero]; omega
    | succ q =>
      rw [off_cons]
      have := ih q
      simp only [List.flatten_cons, List.length_append]
      omega
def Up (f : List Int → List Int → Int) (L : List KV) : Prop := L.Pairwise fun a b => f a.1 b.1 < 0
theorem rises_up {f : List Int → List Int → Int} (ho : Ord f) : ∀ L : List KV, risesL f L = true → Up f L := by
  intro L
  induction L with
  | nil => intro _; exact List.Pairwise.nil
  | cons x r ih =>
    intro h
    cases r with
    | nil => exact List.pairwise_singleton _ _
    | cons y r =>
      simp only [risesL, Bool.and_eq_true, decide_eq_true_eq] at h
      have h2 := ih h.2
      refine List.Pairwise.cons (fun z hz => ?_) h2
      rcases List.mem_cons.1 hz with rfl | hz
      · exact h.1
      · exact ho.trans _ _ _ h.1 ((List.pairwise_cons.1 h2).1 z hz)
theorem findL_cons (f : List Int → List Int → Int) (key : List Int) (x : KV) (r : List KV) : findL f key (x :: r) = if f x.1 key < 0 then findL f key r + 1 else 0 := rfl
end Go.Proofs.YtdkkkikcigjlhaaGreatDoor.Md

namespace Go.Proofs.YtdkkkikcigjlhaaGreatDoor.Md
open Go.RowKit Go.Proofs.YtdkkkikcigjlhaaGreatDoor.Con Go.Proofs.YtdkkkikcigjlhaaGreatDoor.Run Go.Proofs.YtdkkkikcigjlhaaGreatDoorW.PrintWords Go.Proofs.YtdkkkikcigjlhaaGreatDoorW.PrintMore Go.Proofs.YtdkkkikcigjlhaaGreatDoor.Cmp Go.Sort Go.RwLone Go.Proofs.YtdkkkikcigjlhaaGreatDoor.PFnMemMap

structure IxS (V : Value) (LL : List (List S44)) (A : Option Addr) (n c ix b : Nat) (R : Nat → Prop) (w : World) (pos : Int) (dv : Value) : Prop where
  bx : w.heap[ix]? = some (ixO b dv)
  bb : w.heap[b]? = some (idO (lsI V A n c) pos)
  row : Kd.F kLL w R A n LL
  rng : -1 ≤ pos ∧ pos ≤ (n : Int)
  nb : b ≠ ix
  nr : ∀ k, R k → k ≠ ix ∧ k ≠ b ∧ k < w.heap.size

def DtS (V : Value) (LL : List (List S44)) (ix b : Nat) (R : Nat → Prop) (w : World) (q it : Nat) (i : Int) : Prop :=
  it ≠ ix ∧ it ≠ b ∧ ¬ R it ∧ ∃ A1 c1 pos2 ka va, ArAt V (LL.getD q []) A1 (LL.getD q []).length c1 it (fun k => R k ∨ k = it) w i i pos2 ka va

section
variable {V : Value} {f : List Int → List Int → Int} {LL : List (List S44)} {A : Option Addr} {n c ix b : Nat} {R : Nat → Prop} {w w1 : World} {pos p2 : Int} {dv dv2 : Value} {q it : Nat} {i : Int}

theorem IxS.ok (h : IxS V LL A n c ix b R w pos .nilIface) : DvOk w ix .nilIface := .inl rfl
theorem DtS.ok (h : DtS V LL ix b R w q it i) : DvOk w ix (dtV it) := by
  obtain ⟨h1, h2, h3, A1, c1, pos2, ka, va, h4⟩ := h
  exact .inr ⟨it, _, _, _, _, _, rfl, h1, h4.blk⟩

theorem IxS.fr (h : IxS V LL A n c ix b R w pos dv) {S : Nat → Prop} (hf : Fr w w1 S) (hs : ∀ k, R k → ¬ S k) (hx : w1.heap[ix]? = some (ixO b dv2)) (hb : w1.heap[b]? = some (idO (lsI V A n c) p2)) (hr : -1 ≤ p2 ∧ p2 ≤ (n : Int)) : IxS V LL A n c ix b R w1 p2 dv2 :=
  ⟨hx, hb, Kd.F_step h.row (fun k hk hl => hf.block k hl (hs k hk)), hr, h.nb, fun k hk => ⟨(h.nr k hk).1, (h.nr k hk).2.1, Nat.lt_of_lt_of_le (h.nr k hk).2.2 hf.size⟩⟩
theorem DtS.fr (h : DtS V LL ix b R w q it i) {S : Nat → Prop} (hf : Fr w w1 S) (hs : ∀ k, R k → ¬ S k) (hi : ¬ S it) : DtS V LL ix b R w1 q it i := by
  obtain ⟨h1, h2, h3, A1, c1, pos2, ka, va, h4⟩ := h
  refine ⟨h1, h2, h3, A1, c1, pos2, ka, va, h4.keep (fun k hk => hf.block k (h4.top k hk) ?_) hf.size⟩
  rcases hk with hk | rfl
  · exact hs k hk
  · exact hi

end

end Go.Proofs.YtdkkkikcigjlhaaGreatDoor.Md

namespace Go.Proofs.YtdkkkikcigjlhaaGreatDoor.Md
open Go.RowKit Go.Proofs.YtdkkkikcigjlhaaGreatDoor.Con Go.Proofs.YtdkkkikcigjlhaaGreatDoor.Run Go.Proofs.YtdkkkikcigjlhaaGreatDoorW.PrintWords Go.Proofs.YtdkkkikcigjlhaaGreatDoorW.PrintMore Go.Proofs.YtdkkkikcigjlhaaGreatDoor.Cmp Go.Sort Go.RwLone Go.Proofs.YtdkkkikcigjlhaaGreatDoor.PFnMemMap

theorem add_block (a : Addr) (k : Nat) : (a.add k).block = a.block := by
  unfold Addr.add
  first | rfl | (split <;> rfl)

def DvFar (ix b : Nat) (R : Nat → Prop) (dv : Value) : Prop := ∀ k, DvB dv k → k ≠ ix ∧ k ≠ b ∧ ¬ R k

section
variable {V : Value} {f : List Int → List Int → Int} {LL : List (List S44)} {A : Option Addr} {n c ix b : Nat} {R : Nat → Prop} {w w1 : World} {pos p2 : Int} {dv dv2 : Value} {q it : Nat} {i : Int}

theorem DvFar.nil : DvFar ix b R .nilIface := fun k hk => hk.nil.elim
theorem DtS.far (h : DtS V LL ix b R w q it i) : DvFar ix b R (dtV it) := fun k hk => by rw [hk.it]; exact ⟨h.1, h.2.1, h.2.2.1⟩

def PlAt (V : Value) (LL : List (List S44)) (A : Option Addr) (n c ix b : Nat) (R : Nat → Prop) (w : World) (t : Int) (dv : Value) : Prop :=
  ∃ pos, IxS V LL A n c ix b R w pos dv ∧
    ((∃ q i it : Nat, pos = (q : Int) ∧ q < n ∧ i < (LL.getD q []).length ∧ dv = dtV it ∧ DtS V LL ix b R w q it (i : Int) ∧ t = ((offL LL q + i : Nat) : Int)) ∨
     (dv = .nilIface ∧ (pos = -1 ∨ pos = (n : Int)) ∧ (0 < LL.flatten.length → (pos = -1 → t = -1) ∧ (pos = (n : Int) → t = (LL.flatten.length : Int))) ∧ (LL.flatten.length = 0 → t = -1 ∨ t = 0)))

end

end Go.Proofs.YtdkkkikcigjlhaaGreatDoor.Md

namespace Go.Proofs.YtdkkkikcigjlhaaGreatDoor.Md
open Go.RowKit Go.Proofs.YtdkkkikcigjlhaaGreatDoor.Con Go.Proofs.YtdkkkikcigjlhaaGreatDoor.Run Go.Proofs.YtdkkkikcigjlhaaGreatDoorW.PrintWords Go.Proofs.YtdkkkikcigjlhaaGreatDoorW.PrintMore Go.Proofs.YtdkkkikcigjlhaaGreatDoor.Cmp Go.Sort Go.RwLone Go.Proofs.YtdkkkikcigjlhaaGreatDoor.PFnMemMap

section
variable {V : Value} {f : List Int → List Int → Int} {LL : List (List S44)} {A : Option Addr} {n c ix b : Nat} {R : Nat → Prop} {w w1 : World} {pos p2 : Int} {dv dv2 : Value} {q it : Nat} {i : Int}

end

end Go.Proofs.YtdkkkikcigjlhaaGreatDoor.Md

namespace Go.Proofs.YtdkkkikcigjlhaaGreatDoor.Md
open Go.RowKit Go.Proofs.YtdkkkikcigjlhaaGreatDoor.Con Go.Proofs.YtdkkkikcigjlhaaGreatDoor.Run Go.Proofs.YtdkkkikcigjlhaaGreatDoorW.PrintWords Go.Proofs.YtdkkkikcigjlhaaGreatDoorW.PrintMore Go.Proofs.YtdkkkikcigjlhaaGreatDoor.Cmp Go.Sort Go.RwLone Go.Proofs.YtdkkkikcigjlhaaGreatDoor.PFnMemMap

section
variable {V : Value} {f : List Int → List Int → Int} {LL : List (List S44)} {A : Option Addr} {n c ix b : Nat} {R : Nat → Prop} {w w1 : World} {pos p2 : Int} {dv dv2 : Value} {q it : Nat} {i : Int}

theorem on_begin (L : List KV) : onL L (-1) = false := by
  unfold onL
  rw [decide_eq_false (p := (0 : Int) ≤ -1) (by omega), Bool.false_and]
end

end Go.Proofs.YtdkkkikcigjlhaaGreatDoor.Md

namespace Go.Proofs.YtdkkkikcigjlhaaGreatDoor.Md
open Go.RowKit Go.Proofs.YtdkkkikcigjlhaaGreatDoor.Con Go.Proofs.YtdkkkikcigjlhaaGreatDoor.Run Go.Proofs.YtdkkkikcigjlhaaGreatDoorW.PrintWords Go.Proofs.YtdkkkikcigjlhaaGreatDoorW.PrintMore Go.Proofs.YtdkkkikcigjlhaaGreatDoor.Cmp Go.Sort Go.RwLone Go.Proofs.YtdkkkikcigjlhaaGreatDoor.PFnMemMap

section
variable {V : Value} {f : List Int → List Int → Int} {LL : List (List S44)} {A : Option Addr} {n c ix b : Nat} {R : Nat → Prop} {w w1 : World} {pos p2 : Int} {dv dv2 : Value} {q it : Nat} {i t : Int}

theorem DvOk.fr (h : DvOk w ix dv) {S : Nat → Prop} (hf : Fr w w1 S) (hs : ∀ {k}, ¬ (DvB dv k ∧ S k)) : DvOk w1 ix dv := by
  rcases h with rfl | ⟨it, I, p, p2, ka, va, rfl, h1, h2⟩
  · exact .inl rfl
  · exact .inr ⟨it, I, p, p2, ka, va, rfl, h1, (hf.block it (blk_lt h2) (fun q => hs ⟨rfl, q⟩)).trans h2⟩
theorem PlAt.open_ (h : PlAt V LL A n c ix b R w t dv) : ∃ pos, IxS V LL A n c ix b R w pos dv ∧ DvOk w ix dv ∧ DvFar ix b R dv := by
  obtain ⟨pos, h1, ⟨q, i, it, rfl, -, -, rfl, hd, -⟩ | ⟨rfl, -⟩⟩ := h
  · exact ⟨_, h1, hd.ok, hd.far⟩
  · exact ⟨_, h1, .inl rfl, DvFar.nil⟩
end

end Go.Proofs.YtdkkkikcigjlhaaGreatDoor.Md

namespace Go.Proofs.YtdkkkikcigjlhaaGreatDoor.Md
open Go.RowKit Go.Proofs.YtdkkkikcigjlhaaGreatDoor.Con Go.Proofs.YtdkkkikcigjlhaaGreatDoor.Run Go.Proofs.YtdkkkikcigjlhaaGreatDoorW.PrintWords Go.Proofs.YtdkkkikcigjlhaaGreatDoorW.PrintMore Go.Proofs.YtdkkkikcigjlhaaGreatDoor.Cmp Go.Sort Go.RwLone Go.Proofs.YtdkkkikcigjlhaaGreatDoor.PFnMemMap

section
variable {V : Value} {f : List Int → List Int → Int} {LL : List (List S44)} {A : Option Addr} {n c ix b : Nat} {R : Nat → Prop} {w w1 : World} {pos p2 : Int} {dv dv2 : Value} {q it : Nat} {i t : Int} {F : Nat → Prop}

theorem PlAt.fr (h : PlAt V LL A n c ix b R w t dv) (hk : ∀ k, (k = ix ∨ k = b ∨ R k ∨ DvB dv k) → w1.heap[k]? = w.heap[k]?) (hs : w.heap.size ≤ w1.heap.size) : PlAt V LL A n c ix b R w1 t dv := by
  obtain ⟨pos, h1, h2⟩ := h
  have h3 : IxS V LL A n c ix b R w1 pos dv := ⟨(hk ix (.inl rfl)).trans h1.bx, (hk b (.inr (.inl rfl))).trans h1.bb, Kd.F_step h1.row (fun k hr _ => hk k (.inr (.inr (.inl hr)))), h1.rng, h1.nb, fun k hr => ⟨(h1.nr k hr).1, (h1.nr k hr).2.1, Nat.lt_of_lt_of_le (h1.nr k hr).2.2 hs⟩⟩
  refine ⟨pos, h3, ?_⟩
  rcases h2 with ⟨q, i, it, hq, hqn, hi, rfl, ⟨e1, e2, e3, A1, c1, p2, ka, va, e4⟩, ht⟩ | h2
  · refine .inl ⟨q, i, it, hq, hqn, hi, rfl, ⟨e1, e2, e3, A1, c1, p2, ka, va, e4.keep (fun k hk2 => hk k ?_) hs⟩, ht⟩
    rcases hk2 with hk2 | rfl
    · exact .inr (.inr (.inl hk2))
    · exact .inr (.inr (.inr rfl))
  · exact .inr h2

def IxSt (V : Value) (LL : List (List S44)) (A : Option Addr) (n c ix b : Nat) (R : Nat → Prop) (w : World) (t : Int) (F : Nat → Prop) : Prop :=
  ∃ dv, PlAt V LL A n c ix b R w t dv ∧ ∀ k, F k ↔ (k = ix ∨ k = b ∨ R k ∨ DvB dv k)

theorem PlAt.top (h : PlAt V LL A n c ix b R w t dv) : ∀ k, (k = ix ∨ k = b ∨ R k ∨ DvB dv k) → k < w.heap.size := by
  obtain ⟨pos, h1, h2⟩ := h
  rintro k (rfl | rfl | hk | hk)
  · exact blk_lt h1.bx
  · exact blk_lt h1.bb
  · exact (h1.nr k hk).2.2
  · rcases h2 with ⟨q, i, it, -, -, -, rfl, ⟨-, -, -, _, _, _, _, _, h4⟩, -⟩ | ⟨rfl, -⟩
    · rw [hk.it]; exact blk_lt h4.blk
    · exact hk.nil.elim

end

end Go.Proofs.YtdkkkikcigjlhaaGreatDoor.Md

namespace Go.Proofs.YtdkkkikcigjlhaaGreatDoor.Md
open Go.RowKit Go.Proofs.YtdkkkikcigjlhaaGreatDoor.Con Go.Proofs.YtdkkkikcigjlhaaGreatDoor.Run Go.Proofs.YtdkkkikcigjlhaaGreatDoorW.PrintWords Go.Proofs.YtdkkkikcigjlhaaGreatDoorW.PrintMore Go.Proofs.YtdkkkikcigjlhaaGreatDoor.Cmp Go.Sort Go.RwLone Go.Proofs.YtdkkkikcigjlhaaGreatDoor.PFnMemMap

theorem IxSt.fresh {V : Value} {LL : List (List S44)} {A : Option Addr} {n c : Nat} {ok : Nat → Prop} {w : World} (h : Kd.F kLL w ok A n LL) (hok : ∀ k, ok k → k < w.heap.size) {w2 : World}
    (hw : w2 = (w.alloc (.cells (idCells (lsI V A n c) (-1)) 205)).alloc (.cells (ixCells w.heap.size .nilIface) 200)) :
    IxSt V LL A n c (w.heap.size + 1) w.heap.size ok w2 (-1) (fun k => k = w.heap.size + 1 ∨ k = w.heap.size ∨ ok k) ∧ Below w.heap.size w w2 := by
  subst hw
  obtain ⟨h1, h2, h3⟩ := two_new2 w (idCells (lsI V A n c) (-1)) (ixCells w.heap.size .nilIface) 205 200
  refine ⟨⟨.nilIface, ⟨-1, ⟨h2, h1, Kd.F_below h h3, ⟨by omega, by omega⟩, by omega, fun k hk => ?_⟩, .inr ⟨rfl, .inl rfl, fun _ => ⟨fun _ => rfl, fun e => by omega⟩, fun _ => .inl rfl⟩⟩, fun k => ⟨fun hk => ?_, fun hk => ?_⟩⟩, h3⟩
  · have := hok k hk
    exact ⟨by omega, by omega, Nat.lt_of_lt_of_le this h3.size⟩
  · rcases hk with hk | hk | hk
    · exact .inl hk
    · exact .inr (.inl hk)
    · exact .inr (.inr (.inl hk))
  · rcases hk with hk | hk | hk | hk
    · exact .inl hk
    · exact .inr (.inl hk)
    · exact .inr (.inr hk)
    · exact hk.nil.elim

theorem flat_take {LL : List (List S44)} {j : Nat} (h : j < LL.length) {x : List S44} (hx : LL.getD j [] = x) : LL.take (j + 1) = LL.take j ++ [x] ∧ (LL.take (j + 1)).flatten = (LL.take j).flatten ++ x := by
  have e : LL.take (j + 1) = LL.take j ++ [x] := by
    rw [← hx]
    exact sp_take h []
  refine ⟨e, ?_⟩
  rw [e, List.flatten_append]
  simp

theorem off_in_le (LL : List (List S44)) (j : Nat) (h : j < LL.length) : (LL.take j).flatten.length + (LL.getD j []).length ≤ LL.flatten.length := by
  have h1 := off_succ LL j h
  have h2 := off_le LL (j + 1)
  unfold offL at h1 h2
  omega

def FitL (l : List S44) : Prop := l.length ≤ 2147483647 ∧ ∀ x ∈ l, x.f0.length ≤ 2147483647 ∧ x.f1.length ≤ 2147483647

set_option maxHeartbeats 3200000 in
set_option maxRecDepth 100000 in
theorem fits27_calls {w : World} {ok : Nat → Prop} {A : Option Addr} {n c : Nat} {LL : List (List S44)} (hn : LL.length = n) (hA : Kd.F kLL w ok A n LL) (hc : n ≤ c) :
    Calls Tryz.prog 34 #[.slice A n c] w fun e w' => FitTold (n ≤ 2147483647 ∧ ∀ l ∈ LL, FitL l) w e w' := by
  have HA := Lib.hid (And.intro hA hn)
  clear hA hn
  by_cases hbig : (n : Int) > 2147483647
  · have z0 : decide ((n : Int) > 2147483647) = true := decide_eq_true hbig
    have z0' : decide (2147483647 < (n : Int)) = true := decide_eq_true hbig
    clear hbig
    go_enter Tryz.func34, Tryz.ntmps34
    go_wp2
    go_ret
    exact ⟨false, rfl, Lib.hid (fun h => by cases h), Below.refl _ _⟩
  · have z0 : decide ((n : Int) > 2147483647) = false := decide_eq_false hbig
    have z0' : decide (2147483647 < (n : Int)) = false := decide_eq_false hbig
    have HBIG := Lib.hid (show n ≤ 2147483647 by omega)
    clear hbig
    go_enter Tryz.func34, Tryz.ntmps34
    go_wp2
    go_loopg [10] n (fun k v10 w' => ∃ j : Nat, v10 = .int .i64 (j : Int) ∧ Hid (j ≤ n ∧ n ≤ j + k) ∧ Hid (∀ l ∈ LL.take j, FitL l) ∧ Hid (Below w.heap.size w w'))
    case atStart => exact ⟨0, rfl, Lib.hid ⟨Nat.zero_le _, by omega⟩, Lib.hid (fun l hl => by simp at hl), Lib.hid (Below.refl _ _)⟩
    case round =>
      obtain ⟨j, rfl, HJ, HFT, HBL⟩ := hrel
      by_cases hj : j < n
      · obtain ⟨ad, A1, c1, rfl, r0, hl1, hF1⟩ := LL_at (Kd.F_below HA.out.1 HBL.out) hj rfl
        have HTK := Lib.hid (flat_take (LL := LL) (j := j) (by rw [HA.out.2]; exact hj) rfl).1
        generalize LL.getD j [] = x at *
        have HX := Lib.hid (And.intro hl1 hF1)
        have y0 : decide ((j : Int) < (n : Int)) = true := decide_eq_true (by omega)
        have y1 : (j : Int) < (n : Int) := by omega
        have HJL := Lib.hid (And.intro hj HJ.out.2)
        have w1' : wrap64 ((j : Int) + 1) = (j : Int) + 1 := wz (by omega) (by have := HBIG.out; omega)
        clear hl1 hF1
        go_wp2_with fail
        refine (fits19_calls (Kd.F_now HX.out.2) HX.out.1).mono ?_
        rintro e w2 ⟨b, rfl, hb, hb2⟩
        have HB2 := Lib.hid (HBL.out.trans (hb2.mono HBL.out.size))
        clear hb2
        cases b with
        | false =>
          go_wp2
          go_ret
          exact ⟨false, rfl, Lib.hid (fun h => by cases h), HB2.out⟩
        | true =>
          have HF := Lib.hid (show FitL x from hb.out rfl)
          clear hb
          go_wp2
          go_roundg (gk - 1)
          case measure => exact round_less HJL.out.1 HJL.out.2
          case rel =>
            refine ⟨j + 1, (by first | rfl | exact congrArg _ w1'), Lib.hid (round_next HJL.out.1 HJL.out.2), Lib.hid (fun l hl => ?_), HB2⟩
            rw [HTK.out] at hl
            rcases List.mem_append.1 hl with hl | hl
            · exact HFT.out l hl
            · rw [List.mem_singleton] at hl; rw [hl]; exact HF.out
      · have y0 : decide ((j : Int) < (n : Int)) = false := decide_eq_false (by omega)
        have y1 : ¬ (j : Int) < (n : Int) := by omega
        have HJN := Lib.hid (show LL.take j = LL by rw [show j = n by have := HJ.out.1; omega, ← HA.out.2, List.take_length])
        go_wp2
        go_ret
        exact ⟨true, rfl, Lib.hid (fun _ => ⟨HBIG.out, fun l hl => HFT.out l (by rw [HJN.out]; exact hl)⟩), HBL.out⟩

theorem heap_kLL : Kd.Heap kLL := Kd.heap_slice _ heap_k44
theorem few_cnt {LL : List (List S44)} {ms : List S104} (h : few LL ms = true) : LL.length ≤ 4096 ∧ LL.flatten.length ≤ 4096 ∧ ms.length ≤ 4096 := by
  unfold few at h
  have h1 := (of_decide_eq_true h).2
  have e : cntL LL = LL.flatten.length := by simp [cntL]
  omega
theorem len_flat {LL : List (List S44)} : ∀ l ∈ LL, l.length ≤ LL.flatten.length := by
  induction LL with
  | nil => intro l h; cases h
  | cons x r ih =>
    intro l h
    rw [List.flatten_cons, List.length_append]
    rcases List.mem_cons.1 h with rfl | h
    · omega
    · have := ih l h; omega

end Go.Proofs.YtdkkkikcigjlhaaGreatDoor.Md

namespace Go.Proofs.YtdkkkikcigjlhaaGreatDoor.Md
open Go.RowKit Go.Proofs.YtdkkkikcigjlhaaGreatDoor.Open Go.Proofs.YtdkkkikcigjlhaaGreatDoorW.PrintWords Go.Proofs.YtdkkkikcigjlhaaGreatDoor.Cmp Go.Proofs.YtdkkkikcigjlhaaGreatDoor.PFnMemMap

abbrev LLK : Kd (List (List S44)) := Kd.slice 38 kLL
theorem lls_opens : Opens Tryz.prog 50 LLK (fun xs => ∀ l ∈ xs, ∀ x ∈ l, (∀ z ∈ x.f0, (Lit.int .u8 z).wf = true) ∧ (∀ z ∈ x.f1, (Lit.int .u8 z).wf = true)) := opens_slice Tryz.underlying50 (by kernel_rfl) kvs_opens

end Go.Proofs.YtdkkkikcigjlhaaGreatDoor.Md

namespace Go.Proofs.YtdkkkikcigjlhaaGreatDoor.Md
open Go.RowKit Go.Proofs.YtdkkkikcigjlhaaGreatDoor.Con Go.Proofs.YtdkkkikcigjlhaaGreatDoor.Run Go.Proofs.YtdkkkikcigjlhaaGreatDoorW.PrintWords Go.Proofs.YtdkkkikcigjlhaaGreatDoorW.PrintMore Go.Proofs.YtdkkkikcigjlhaaGreatDoor.Cmp Go.Sort Go.RwLone Go.Proofs.YtdkkkikcigjlhaaGreatDoor.PFnMemMap

theorem findL_ahead (f : List Int → List Int → Int) (key : List Int) : ∀ (A B : List KV), (∀ x ∈ A, f x.1 key < 0) → findL f key (A ++ B) = A.length + findL f key B := by
  intro A
  induction A with
  | nil => intro B _; simp
  | cons x A ih =>
    intro B h
    have := h x (by simp)
    simp only [List.cons_append, findL, if_pos this, ih B (fun y hy => h y (by simp [hy])), List.length_cons]
    omega
theorem findL_stop (f : List Int → List Int → Int) (key : List Int) (B : List KV) (h : ∀ x ∈ B, 0 ≤ f x.1 key) : findL f key B = 0 := by
  cases B with
  | nil => rfl
  | cons x B =>
    have := h x (by simp)
    simp only [findL, if_neg (show ¬ f x.1 key < 0 by omega)]

theorem split_find {f : List Int → List Int → Int} {P R : List Node} {key : List Int} (hP : ∀ x ∈ P, f x.key key < 0) (hR : ∀ x ∈ R, 0 ≤ f x.key key) : findL f key (kvsL (P ++ R)) = P.length := by
  have e : kvsL (P ++ R) = kvsL P ++ kvsL R := List.map_append
  rw [e, findL_ahead f key _ _ (fun x hx => by obtain ⟨y, hy, rfl⟩ := List.mem_map.1 hx; exact hP y hy), findL_stop f key _ (fun x hx => by obtain ⟨y, hy, rfl⟩ := List.mem_map.1 hx; exact hR y hy)]
  simp [kvsL]

theorem split_get {P R : List Node} : (kvsL (P ++ R))[P.length]? = R.head?.map fun x => (x.key, x.val) := by
  unfold kvsL
  rw [List.getElem?_map, List.getElem?_append_right (Nat.le_refl _), Nat.sub_self]
  cases R <;> rfl
theorem split_hit {f : List Int → List Int → Int} (ho : Ord f) {P R : List Node} {key : List Int} (hP : ∀ x ∈ P, f x.key key < 0) (hR : ∀ x ∈ R, 0 ≤ f x.key key) : hitL f key (kvsL (P ++ R)) = true ↔ ∃ x R', R = x :: R' ∧ f x.key key = 0 := by
  unfold hitL
  rw [split_find hP hR, split_get]
  cases R with
  | nil => simp
  | cons x R' =>
    simp only [List.head?_cons, Option.map_some, decide_eq_true_eq]
    exact ⟨fun h => ⟨x, R', rfl, (ho.zero _ _).2 h⟩, fun ⟨y, R2, e, h⟩ => by injection e with e1 e2; subst e1; exact (ho.zero _ _).1 h⟩
theorem split_here {f : List Int → List Int → Int} {P R : List Node} {key : List Int} (hP : ∀ x ∈ P, f x.key key < 0) (hR : ∀ x ∈ R, 0 ≤ f x.key key) {x : Node} {R' : List Node} (e : R = x :: R') : (kvsL (P ++ R)).getD (findL f key (kvsL (P ++ R))) ([], []) = (x.key, x.val) ∧ findL f key (kvsL (P ++ R)) < (kvsL (P ++ R)).length := by
  rw [split_find hP hR]
  subst e
  refine ⟨?_, by simp [kvsL]⟩
  rw [List.getD_eq_getElem?_getD, split_get]
  rfl

section
variable {D : MemD} {w w' : World} {base p kb nb : Nat} {V : Value} {f : List Int → List Int → Int} {ns : List Node}

theorem Mem.rest (h : Mem D w base p V f ns kb nb) (hr : RestTold w base p D.vk D.vn V D.r (D.mh : Int) (ns.length : Int) (weigh ns : Int) D.q D.kv D.nd w') : ∃ D', Mem D' w' base p V f ns kb nb ∧ MemStep w p D D' w' ∧ D'.kv = D.kv ∧ D'.Kx = D.Kx := by
  obtain ⟨hg, cs', hT, hC⟩ := hr
  have ha := h.T.away h.R
  exact ⟨{ D with cs := cs' }, ⟨hT, hC, h.S, h.R.kept hg (fun e => ha.rp (by injection e)) (fun e => ha.gp (by injection e)), h.cm, h.sorted, h.byt, h.cap, h.kvb, h.ndb, h.few, h.light, h.far⟩,
    ⟨Fr.of_grown hg (fun k e => by injection e with e; exact e ▸ .inr (.inl rfl)), fun k hk => .inl hk⟩, rfl, rfl⟩

theorem Mem.len (h : Mem D w base p V f ns kb nb) :
    Calls Tryz.prog 76 #[.pointer (some ⟨p, 0, none⟩)] w fun e w' => e = .returned (.int .i64 ((kvsL ns).length : Int)) ∧ ∃ D', Mem D' w' base p V f ns kb nb ∧ MemStep w p D D' w' :=
  (Len_calls h.T h.C).mono (by
    rintro e w' ⟨rfl, hr⟩
    obtain ⟨D', h1, h2, -⟩ := h.rest hr
    exact ⟨by simp [kvsL], D', h1, h2⟩)

theorem Mem.size (h : Mem D w base p V f ns kb nb) :
    Calls Tryz.prog 77 #[.pointer (some ⟨p, 0, none⟩)] w fun e w' => e = .returned (.int .i64 (weigh ns : Int)) ∧ ∃ D', Mem D' w' base p V f ns kb nb ∧ MemStep w p D D' w' :=
  (Size_calls h.T h.C).mono (by
    rintro e w' ⟨rfl, hr⟩
    obtain ⟨D', h1, h2, -⟩ := h.rest hr
    exact ⟨rfl, D', h1, h2⟩)

variable {A0 : Option Addr} {ca : Nat} {key : List Int} {er : Value}

theorem Mem.has (h : Mem D w base p V f ns kb nb) (hkb : kb ≤ 1099511627776) (hnb : nb ≤ 1099511627776) (hA : Kd.C (Kd.int .u8) w A0 key.length key) (hk : Byt key) (hne : 0 < key.length → ∀ a, A0 = some a → a.block ≠ p) :
    Calls Tryz.prog 74 #[.pointer (some ⟨p, 0, none⟩), .slice A0 key.length ca] w fun e w' => e = .returned (.bool (hitL f key (kvsL ns))) ∧ ∃ D', Mem D' w' base p V f ns kb nb ∧ MemStep w p D D' w' := by
  obtain ⟨P, R, e, hP, hR, hs⟩ := h.split key
  refine (Has_calls (N := D.N) (c := D.c) (Kx := D.Kx) (ck := D.ck) (ca := ca) h.T h.C h.S (Nat.le_trans h.ndb hnb) (Nat.le_trans h.kvb hkb) h.cap h.cm e hP hR hs hk (fun x hx => (h.byt x hx).1) hA hne).mono ?_
  rintro en w' ⟨ex, rfl, hex, hr⟩
  obtain ⟨D', h1, h2, -⟩ := h.rest hr
  refine ⟨?_, D', h1, h2⟩
  have hh := split_hit h.cm.ord hP hR
  rw [← e] at hh
  congr 2
  cases ex <;> cases hb : hitL f key (kvsL ns)
  · rfl
  · exact absurd (hex.2 (hh.1 hb)) (by simp)
  · exact absurd (hh.2 (hex.1 rfl)) (by simp [hb])
  · rfl

theorem own_rowF {W : World} {base n c : Nat} {A : Option Addr} {l : List Int} {ok : Nat → Prop} (h : W.ownsRow base 5 1 (.slice A n c) n (nums .u8 l)) (hq : ∀ k, (Value.slice A n c).ownBlock = some k → ok k) : Kd.F (Kd.int .u8) W ok A n l := fun W' hW =>
  ints_C (own_reads' (own_move h (fun k hk => hW k (hq k hk) (own_lt h k hk))))

def GetT (base p : Nat) (V : Value) (f : List Int → List Int → Int) (ns : List Node) (kb nb : Nat) (D : MemD) (w : World) (key : List Int) (er : Value) (e : Ending) (w' : World) : Prop :=
  ∃ D', Mem D' w' base p V f ns kb nb ∧ MemStep w p D D' w' ∧
    ((hitL f key (kvsL ns) = true ∧ ∃ A c, e = .returned (.tuple #[.slice A ((kvsL ns).getD (findL f key (kvsL ns)) ([], [])).2.length c, .nilIface]) ∧ Kd.F (Kd.int .u8) w' (D'.own p) A ((kvsL ns).getD (findL f key (kvsL ns)) ([], [])).2.length ((kvsL ns).getD (findL f key (kvsL ns)) ([], [])).2) ∨
      (hitL f key (kvsL ns) = false ∧ e = .returned (.tuple #[.slice none 0 0, er])))

theorem Mem.get (h : Mem D w base p V f ns kb nb) (hkb : kb ≤ 1099511627776) (hnb : nb ≤ 1099511627776) (hA : Kd.C (Kd.int .u8) w A0 key.length key) (hk : Byt key) (hne : 0 < key.length → ∀ a, A0 = some a → a.block ≠ p) (hE : w.cell? ⟨0, 0, none⟩ = some er) (hp0 : 0 ≠ p) :
    Calls Tryz.prog 73 #[.pointer (some ⟨p, 0, none⟩), .slice A0 key.length ca] w fun e w' => GetT base p V f ns kb nb D w key er e w' := by
  obtain ⟨P, R, e, hP, hR, hs⟩ := h.split key
  refine (Get_calls (N := D.N) (c := D.c) (Kx := D.Kx) (ck := D.ck) (ca := ca) h.T h.C h.S (Nat.le_trans h.ndb hnb) (Nat.le_trans h.kvb hkb) h.cap h.cm e hP hR hs hk (fun x hx => (h.byt x hx).1) hA hne hE hp0).mono ?_
  rintro en w' ⟨hres, hr⟩
  obtain ⟨D', h1, h2, h3, h4⟩ := h.rest hr
  have hh := split_hit h.cm.ord hP hR
  rw [← e] at hh
  refine ⟨D', h1, h2, ?_⟩
  rcases hres with ⟨x, R', e1, h0, A, c, rfl, hc, hcut⟩ | ⟨hno, rfl⟩
  · obtain ⟨ea, -⟩ := split_here hP hR e1
    rw [← e] at ea
    refine .inl ⟨hh.2 ⟨x, R', e1, h0⟩, A, c, by rw [ea], ?_⟩
    rw [ea]
    have h5 := h1.T.kv
    unfold MemD.vk at h5
    have hrow : Kd.F (Kd.int .u8) w' (D'.own p) D'.Kx D'.kv.length D'.kv := own_rowF h5 (fun k hk => .inr (.inr (.inr (.inl (by unfold MemD.vk; exact hk.symm)))))
    rw [h3, h4] at hrow
    exact fun W' hW => hcut W' (hrow W' hW)
  · refine .inr ⟨?_, rfl⟩
    cases hb : hitL f key (kvsL ns)
    · rfl
    · exact absurd (hh.1 hb) hno

def FindT (base p : Nat) (V : Value) (f : List Int → List Int → Int) (ns : List Node) (kb nb : Nat) (D : MemD) (w : World) (key : List Int) (er : Value) (e : Ending) (w' : World) : Prop :=
  ∃ D', Mem D' w' base p V f ns kb nb ∧ MemStep w p D D' w' ∧
    ((findL f key (kvsL ns) < (kvsL ns).length ∧ ∃ A c B d, e = .returned (.tuple #[.slice A ((kvsL ns).getD (findL f key (kvsL ns)) ([], [])).1.length c, .slice B ((kvsL ns).getD (findL f key (kvsL ns)) ([], [])).2.length d, .nilIface]) ∧ Kd.F (Kd.int .u8) w' (D'.own p) A ((kvsL ns).getD (findL f key (kvsL ns)) ([], [])).1.length ((kvsL ns).getD (findL f key (kvsL ns)) ([], [])).1 ∧ Kd.F (Kd.int .u8) w' (D'.own p) B ((kvsL ns).getD (findL f key (kvsL ns)) ([], [])).2.length ((kvsL ns).getD (findL f key (kvsL ns)) ([], [])).2) ∨
      (¬ findL f key (kvsL ns) < (kvsL ns).length ∧ e = .returned (.tuple #[.slice none 0 0, .slice none 0 0, er])))

theorem Mem.find (h : Mem D w base p V f ns kb nb) (hkb : kb ≤ 1099511627776) (hnb : nb ≤ 1099511627776) (hA : Kd.C (Kd.int .u8) w A0 key.length key) (hk : Byt key) (hne : 0 < key.length → ∀ a, A0 = some a → a.block ≠ p) (hE : w.cell? ⟨0, 0, none⟩ = some er) (hp0 : 0 ≠ p) :
    Calls Tryz.prog 75 #[.pointer (some ⟨p, 0, none⟩), .slice A0 key.length ca] w fun e w' => FindT base p V f ns kb nb D w key er e w' := by
  obtain ⟨P, R, e, hP, hR, hs⟩ := h.split key
  refine (Find_calls (N := D.N) (c := D.c) (Kx := D.Kx) (ck := D.ck) (ca := ca) h.T h.C h.S (Nat.le_trans h.ndb hnb) (Nat.le_trans h.kvb hkb) h.cap h.cm e hP hR hs hk (fun x hx => (h.byt x hx).1) hA hne hE hp0).mono ?_
  rintro en w' ⟨hres, hr⟩
  obtain ⟨D', h1, h2, h3, h4⟩ := h.rest hr
  refine ⟨D', h1, h2, ?_⟩
  rcases hres with ⟨x, R', e1, A, c, B, d, rfl, hc, hd, hcut, hcut2⟩ | ⟨hno, rfl⟩
  · obtain ⟨ea, el⟩ := split_here hP hR e1
    rw [← e] at ea el
    have h5 := h1.T.kv
    unfold MemD.vk at h5
    have hrow : Kd.F (Kd.int .u8) w' (D'.own p) D'.Kx D'.kv.length D'.kv := own_rowF h5 (fun k hk => .inr (.inr (.inr (.inl (by unfold MemD.vk; exact hk.symm)))))
    rw [h3, h4] at hrow
    refine .inl ⟨el, A, c, B, d, by rw [ea], ?_, ?_⟩
    · rw [ea]; exact fun W' hW => hcut W' (hrow W' hW)
    · rw [ea]; exact fun W' hW => hcut2 W' (hrow W' hW)
  · refine .inr ⟨?_, rfl⟩
    have h6 := split_find hP hR
    rw [← e] at h6
    rw [h6, e, hno, List.append_nil]
    simp [kvsL]

def dropL (f : List Int → List Int → Int) (key : List Int) (L : List KV) : List KV := if hitL f key L = true then L.take (findL f key L) ++ L.drop (findL f key L + 1) else L

end

end Go.Proofs.YtdkkkikcigjlhaaGreatDoor.Md
