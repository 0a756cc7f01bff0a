/- A search in a skip list: what it stands on at each level. No program in sight. A cursor on a list of pairs, pure: its places and its moves. What the library's body-less comparison of bytes tells of two slices that are read. Written for the seat YtdkkkikcigjlhaaGreatDoor. The comparers' own contracts. Written for the seat YtdkkkikcigjlhaaGreatDoor. Small words of this seat: rows of bytes, cells, cuts. The reference's orders and its search, as printed: what they tell. -/
import Derived.Test.YtdkkkikcigjlhaaGreatDoorMj09
import Derived.Test.YtdkkkikcigjlhaaGreatDoorMj05
import Derived.Lib.Bytealg
import Derived.WalkKit
import Derived.Below
import Derived.Test.YtdkkkikcigjlhaaGreatDoorProg
import Derived.WalkSpells
import Derived.WalkLawsBesides
import Derived.KernelRfl
import Derived.Deep.QuietTactic
import Derived.BigQuiet
import Derived.Handy
import Derived.Lib.Hide
import Derived.Deep.RegionHeld3
import Derived.Lib.QuietBelow
import Derived.Lib.SliceRun
import Derived.LoopTactic
import Derived.Deep.DeepCutAuto
import Derived.StillTailTactics
import Derived.Deep.RegionLaw
import Derived.Test.YtdkkkikcigjlhaaGreatDoorMj08
set_option linter.unusedVariables false
set_option linter.unusedSimpArgs false
namespace Go.Proofs.YtdkkkikcigjlhaaGreatDoor.Md

structure Ord (f : List Int → List Int → Int) : Prop where
  three : ∀ l m, f l m = -1 ∨ f l m = 0 ∨ f l m = 1
  swap : ∀ l m, f m l = - f l m
  zero : ∀ l m, f l m = 0 ↔ l = m
  trans : ∀ l m k, f l m < 0 → f m k < 0 → f l k < 0

def Sorted (f : List Int → List Int → Int) (l : List Node) : Prop := l.Pairwise fun x y => f x.key y.key < 0

theorem Ord.refl {f : List Int → List Int → Int} (h : Ord f) (l : List Int) : f l l = 0 := (h.zero l l).2 rfl

theorem sorted_split {f : List Int → List Int → Int} (h : Ord f) (key : List Int) : ∀ l, Sorted f l → ∃ P R, l = P ++ R ∧ (∀ x ∈ P, f x.key key < 0) ∧ (∀ x ∈ R, 0 ≤ f x.key key) := by
  intro l
  induction l with
  | nil => intro _; exact ⟨[], [], rfl, by simp, by simp⟩
  | cons x l ih =>
    intro hs
    obtain ⟨h1, h2⟩ := List.pairwise_cons.1 hs
    by_cases q : f x.key key < 0
    · obtain ⟨P, R, rfl, h3, h4⟩ := ih h2
      refine ⟨x :: P, R, rfl, fun y hy => ?_, h4⟩
      rcases List.mem_cons.1 hy with e | hy
      · rw [e]; exact q
      · exact h3 y hy
    · refine ⟨[], x :: l, rfl, by simp, fun y hy => ?_⟩
      rcases List.mem_cons.1 hy with e | hy
      · rw [e]; omega
      · rcases Int.lt_or_le (f y.key key) 0 with q2 | q2
        · exact absurd (h.trans _ _ _ (h1 y hy) q2) q
        · exact q2

theorem hit_first {f : List Int → List Int → Int} (h : Ord f) {key : List Int} {R : List Node} (hs : Sorted f R) (hR : ∀ x ∈ R, 0 ≤ f x.key key) {y : Node} (hy : y ∈ R) (h0 : f y.key key = 0) : ∃ R', R = y :: R' := by
  cases R with
  | nil => cases hy
  | cons x R =>
    rcases List.mem_cons.1 hy with rfl | hy
    · exact ⟨R, rfl⟩
    · have h1 := (List.pairwise_cons.1 hs).1 y hy
      have e : y.key = key := (h.zero _ _).1 h0
      rw [e] at h1
      have := hR x List.mem_cons_self
      omega

theorem look (i : Nat) (A B R : List Node) : ((∀ y ∈ B, y.h ≤ i) ∧ nxt i (B ++ R) = nxt i R ∧ prv i (A ++ B) = prv i A) ∨ ∃ B1 y B2, B = B1 ++ y :: B2 ∧ i < y.h ∧ nxt i (B ++ R) = y.a ∧ prv i (A ++ (B1 ++ [y])) = y.a := by
  rcases split_first i B with h | ⟨B1, y, B2, rfl, h1, h2⟩
  · exact .inl ⟨h, nxt_app i B R h, prv_low i A B h⟩
  · refine .inr ⟨B1, y, B2, rfl, h2, ?_, ?_⟩
    · rw [List.append_assoc]; exact nxt_hit i B1 _ y h1 h2
    · have := prv_hit i (A ++ B1) [] y (by simp) h2
      simpa using this

theorem step_on {i : Nat} {A B R : List Node} (h : ∃ y ∈ B, i < y.h) : ∃ A' B', A ++ B = A' ++ B' ∧ prv i A' = nxt i (B ++ R) ∧ B'.length + 1 ≤ B.length ∧ ∃ y ∈ B, nxt i (B ++ R) = y.a := by
  rcases look i A B R with ⟨g, _⟩ | ⟨B1, y, B2, rfl, g1, g2, g3⟩
  · obtain ⟨y, hy, q⟩ := h
    have := g y hy
    omega
  · exact ⟨A ++ (B1 ++ [y]), B2, by simp, g3.trans g2.symm, by rw [List.length_append, List.length_cons]; omega, y, by simp, g2⟩

theorem step_down {i : Nat} {A B : List Node} (h : ∀ y ∈ B, y.h ≤ i) : ∃ A' B', A ++ B = A' ++ B' ∧ prv (i - 1) A' = prv i A ∧ prv i (A ++ B) = prv i A ∧ B'.length ≤ (A ++ B).length := by
  obtain ⟨A', B', h1, h2, h3⟩ := prv_down i (A ++ B)
  have h4 := prv_low i A B h
  exact ⟨A', B', h1, (h3 (i - 1) (by omega)).trans h4, h4, by rw [h1, List.length_append]; omega⟩

theorem low_or_high (i : Nat) (B : List Node) : (∀ y ∈ B, y.h ≤ i) ∨ ∃ y ∈ B, i < y.h := by
  rcases split_first i B with h | ⟨B1, y, B2, rfl, _, h⟩
  · exact .inl h
  · exact .inr ⟨y, by simp, h⟩

theorem down_less {i n m k : Nat} (h0 : ¬ i = 0) (h : i * (n + 1) + m ≤ k) : (i - 1) * (n + 1) + n < k := by
  obtain ⟨j, rfl⟩ : ∃ j, i = j + 1 := ⟨i - 1, by omega⟩
  rw [Nat.add_mul] at h
  simp only [Nat.add_sub_cancel]
  omega

abbrev KV := List Int × List Int

def onL (L : List KV) (i : Int) : Bool := decide (0 ≤ i) && decide (i < (L.length : Int))
def keyL (L : List KV) (i : Int) : List Int := if onL L i then (L.getD i.toNat ([], [])).1 else []
def valL (L : List KV) (i : Int) : List Int := if onL L i then (L.getD i.toNat ([], [])).2 else []
def findL (f : List Int → List Int → Int) (key : List Int) : List KV → Nat
  | [] => 0
  | x :: r => if f x.1 key < 0 then findL f key r + 1 else 0
def mvL (f : List Int → List Int → Int) (L : List KV) (i d : Int) (key : List Int) : Int :=
  if d = 0 then 0 else if d = 1 then (L.length : Int) - 1 else if d = 2 then (if i + 1 ≤ (L.length : Int) then i + 1 else (L.length : Int)) else if d = 3 then (if -1 ≤ i - 1 then i - 1 else -1) else (findL f key L : Int)

theorem findL_le (f : List Int → List Int → Int) (key : List Int) : ∀ L : List KV, findL f key L ≤ L.length := by
  intro L
  induction L with
  | nil => exact Nat.le_refl _
  | cons x r ih =>
    unfold findL
    split
    · rw [List.length_cons]; omega
    · omega

def risesL (f : List Int → List Int → Int) : List KV → Bool
  | [] => true
  | [_] => true
  | x :: y :: r => decide (f x.1 y.1 < 0) && risesL f (y :: r)

theorem rises_step (f : List Int → List Int → Int) (L : List KV) (m : Nat) (h : m + 1 < L.length) : risesL f (L.drop m) = (decide (f (L.getD m ([], [])).1 (L.getD (m + 1) ([], [])).1 < 0) && risesL f (L.drop (m + 1))) := by
  have h0 : m < L.length := by omega
  rw [List.drop_eq_getElem_cons h0, List.drop_eq_getElem_cons h]
  simp only [risesL, List.getD_eq_getElem?_getD, List.getElem?_eq_getElem h, List.getElem?_eq_getElem h0, Option.getD_some]
theorem rises_end (f : List Int → List Int → Int) (L : List KV) (m : Nat) (h : L.length ≤ m + 1) : risesL f (L.drop m) = true := by
  have hl : (L.drop m).length ≤ 1 := by rw [List.length_drop]; omega
  rcases hd : L.drop m with _ | ⟨x, _ | ⟨y, r⟩⟩
  · rfl
  · rfl
  · rw [hd] at hl
    simp at hl

end Go.Proofs.YtdkkkikcigjlhaaGreatDoor.Md

namespace Go.Proofs.YtdkkkikcigjlhaaGreatDoor.Run
open Go.RowKit Go.Proofs.YtdkkkikcigjlhaaGreatDoorW.PrintWords Go.Proofs.YtdkkkikcigjlhaaGreatDoor.Cmp

def u8s (l : List Int) : List UInt8 := l.map fun x => x.toNat.toUInt8

theorem add_zero (a : Addr) : a.add 0 = a := by simp [Addr.add]

theorem run_loadBytes {P : Program} (w : World) : ∀ (n : Nat) (a : Addr) (l : List Int) (acc : ByteArray), l.length = n → (∀ j, j < n → w.cell? (a.add j) = some (.int .u8 (l.getD j 0))) →
    (Extern.Bytes.loadBytes a n acc).run P w = .ok ⟨acc.data ++ (u8s l).toArray⟩ w
  | 0, a, l, acc, hl, _ => by
    obtain rfl := List.eq_nil_of_length_eq_zero hl
    simp [Extern.Bytes.loadBytes, u8s]
  | n + 1, a, l, acc, hl, h => by
    cases l with
    | nil => simp at hl
    | cons x t =>
      have h0 := h 0 (by omega)
      rw [add_zero] at h0
      have ih := run_loadBytes (P := P) w n (a.add 1) t (acc.push x.toNat.toUInt8) (by simpa using hl) (fun j hj => by
        rw [add_add, Nat.add_comm]
        have := h (j + 1) (by omega)
        simpa using this)
      simp only [List.getD_cons_zero] at h0
      have step : (Extern.Bytes.loadBytes a (n + 1) acc).run P w = (Extern.Bytes.loadBytes (a.add 1) n (acc.push x.toNat.toUInt8)).run P w := by
        simp [Extern.Bytes.loadBytes, h0]
      rw [step, ih]
      simp [u8s, ByteArray.push]

theorem run_bytesOf {P : Program} {w : World} {A : Option Addr} {n c : Nat} {l : List Int} (h : Kd.C (Kd.int .u8) w A n l) :
    (Extern.Bytes.bytesOf (.slice A n c)).run P w = .ok ⟨(u8s l).toArray⟩ w := by
  have hr := Kd.reads_of_C (d := (0 : Int)) h
  obtain ⟨h1, h2, h3⟩ := hr
  cases A with
  | none =>
    have : n = 0 := by
      rcases Nat.eq_zero_or_pos n with e | e
      · exact e
      · obtain ⟨ad, hd, _⟩ := h3 e
        cases hd
    subst this
    obtain rfl := List.eq_nil_of_length_eq_zero h1
    simp [Extern.Bytes.bytesOf, u8s, ByteArray.empty, ByteArray.emptyWithCapacity]
    rfl
  | some a =>
    simp only [Extern.Bytes.bytesOf]
    rw [run_loadBytes w n a l .empty h1 (fun j hj => by
      obtain ⟨ad, hd, hc⟩ := h3 (by omega)
      cases hd
      exact hc j hj)]
    simp

theorem compare_u8s : ∀ (l m : List Int), Byt l → Byt m → Lib.compareBytes (u8s l) (u8s m) = cmpI l m
  | [], [], _, _ => rfl
  | [], _ :: _, _, _ => rfl
  | _ :: _, [], _, _ => rfl
  | a :: l, b :: m, hl, hm => by
    have ha := hl a (by simp)
    have hb := hm b (by simp)
    have ih := compare_u8s l m (fun x hx => hl x (by simp [hx])) (fun x hx => hm x (by simp [hx]))
    show (if a.toNat.toUInt8 < b.toNat.toUInt8 then (-1 : Int) else if b.toNat.toUInt8 < a.toNat.toUInt8 then 1 else Lib.compareBytes (u8s l) (u8s m)) = (if a < b then -1 else if b < a then 1 else cmpI l m)
    have e1 : (a.toNat.toUInt8 < b.toNat.toUInt8) ↔ a < b := by
      rw [UInt8.lt_iff_toNat_lt]; simp; omega
    have e2 : (b.toNat.toUInt8 < a.toNat.toUInt8) ↔ b < a := by
      rw [UInt8.lt_iff_toNat_lt]; simp; omega
    simp only [e1, e2, ih]

theorem run_compare {P : Program} {w : World} {A B : Option Addr} {n c m d : Nat} {l k : List Int} (h : Kd.C (Kd.int .u8) w A n l) (g : Kd.C (Kd.int .u8) w B m k) (hl : Byt l) (hk : Byt k) :
    (Extern.BytealgCompare.compare #[.slice A n c, .slice B m d]).run P w = .ok (.int .i64 (cmpI l k)) w := by
  have e : Extern.BytealgCompare.compare #[.slice A n c, .slice B m d] = (do pure (goInt (Extern.BytealgCompare.cmp (← Extern.Bytes.bytesOf (.slice A n c)) (← Extern.Bytes.bytesOf (.slice B m d))))) := rfl
  rw [e]
  simp only [Sem.run_bind, run_bytesOf h, run_bytesOf g, Result.andThen_ok, Sem.run_pure, goInt, Lib.cmp_eq]
  rw [compare_u8s l k hl hk]

end Go.Proofs.YtdkkkikcigjlhaaGreatDoor.Run

namespace Go.Proofs.YtdkkkikcigjlhaaGreatDoor.Con
open Go.RowKit Go.Proofs.YtdkkkikcigjlhaaGreatDoorW.PrintWords Go.Proofs.YtdkkkikcigjlhaaGreatDoor.Cmp Go.Proofs.YtdkkkikcigjlhaaGreatDoor.Run

theorem call_compare {w : World} {A B : Option Addr} {n c m d : Nat} {l k : List Int} (h : Kd.C (Kd.int .u8) w A n l) (g : Kd.C (Kd.int .u8) w B m k) (hl : Byt l) (hk : Byt k) :
    (callFunc 183 #[.slice A n c, .slice B m d]).run Tryz.prog w = .ok (.value (.int .i64 (cmpI l k))) w := by
  rw [run_callFunc_extern Tryz.func183 (by kernel_rfl) (by kernel_rfl) (by kernel_rfl) (e := Extern.BytealgCompare.compare) (by kernel_rfl), run_compare h g hl hk]
  rfl

set_option maxHeartbeats 400000 in
theorem bytes_Compare {w : World} {A B : Option Addr} {n c m d : Nat} {l k : List Int} (h : Kd.C (Kd.int .u8) w A n l) (g : Kd.C (Kd.int .u8) w B m k) (hl : Byt l) (hk : Byt k) :
    Calls Tryz.prog 182 #[.slice A n c, .slice B m d] w fun e w' => e = .returned (.int .i64 (cmpI l k)) ∧ w = w' := by
  have hc := call_compare (c := c) (d := d) h g hl hk
  clear h g hl hk
  go_enter Tryz.func182, Tryz.ntmps182
  go_wp2
  go_ret
  exact ⟨rfl, rfl⟩

theorem ret_int {k : IntKind} {a b : Int} (h : a = b) : Ending.returned (.int k a) = .returned (.int k b) := by rw [h]
theorem ret_v {a b : Value} (h : a = b) : Ending.returned a = .returned b := by rw [h]

def ordV (o : Int) : Value := if o = 1 then .iface 155 (.agg #[]) else if o = 2 then .iface 156 (.agg #[]) else .iface 157 (.agg #[])

set_option maxHeartbeats 400000 in
theorem bytesComparer_Compare {w : World} {A B : Option Addr} {n c m d : Nat} {l k : List Int} (h : Kd.C (Kd.int .u8) w A n l) (g : Kd.C (Kd.int .u8) w B m k) (hl : Byt l) (hk : Byt k) :
    Calls Tryz.prog 188 #[.agg #[], .slice A n c, .slice B m d] w fun e w' => e = .returned (.int .i64 (cmpI l k)) ∧ Below w.heap.size w w' := by
  have H1 := Lib.hid h
  have H2 := Lib.hid g
  clear h g
  go_enter Tryz.func188, Tryz.ntmps188
  go_wp2_with (go_at_call 182; refine (bytes_Compare (Kd.C_alloc H1.out _) (Kd.C_alloc H2.out _) hl hk).mono ?_; rintro e w' ⟨rfl, rfl⟩)
  go_ret
  exact ⟨rfl, by go_grown⟩

set_option maxHeartbeats 400000 in
theorem falling_Compare {w : World} {A B : Option Addr} {n c m d : Nat} {l k : List Int} (h : Kd.C (Kd.int .u8) w A n l) (g : Kd.C (Kd.int .u8) w B m k) (hl : Byt l) (hk : Byt k) :
    Calls Tryz.prog 178 #[.agg #[], .slice A n c, .slice B m d] w fun e w' => e = .returned (.int .i64 (cmpO 1 l k)) ∧ Below w.heap.size w w' := by
  have H1 := Lib.hid h
  have H2 := Lib.hid g
  have en := Kd.C_len h
  have em := Kd.C_len g
  have hx : Hid (cmpO 1 l k = if l.length = 0 ∨ k.length = 0 then cmpI l k else cmpI k l) := by unfold cmpO; rw [if_pos rfl]; rfl
  clear h g
  rw [en, em] at hx
  clear en em
  by_cases z : n = 0
  · have z1 : ((n : Int) == 0) = true := by rw [beq_iff_eq]; omega
    have hz := Lib.hid z
    clear z
    go_enter Tryz.func178, Tryz.ntmps178
    go_wp2_with (go_at_call 182; refine (bytes_Compare (Kd.C_alloc H1.out _) (Kd.C_alloc H2.out _) hl hk).mono ?_; rintro e w' ⟨rfl, rfl⟩)
    go_ret
    exact ⟨ret_int (by rw [hx.out, if_pos (Or.inl hz.out)]), by go_grown⟩
  · have z1 : ((n : Int) == 0) = false := by rw [beq_eq_false_iff_ne]; omega
    by_cases y : m = 0
    · have y1 : ((m : Int) == 0) = true := by rw [beq_iff_eq]; omega
      have hy := Lib.hid y
      clear y
      go_enter Tryz.func178, Tryz.ntmps178
      go_wp2_with (go_at_call 182; refine (bytes_Compare (Kd.C_alloc H1.out _) (Kd.C_alloc H2.out _) hl hk).mono ?_; rintro e w' ⟨rfl, rfl⟩)
      go_ret
      exact ⟨ret_int (by rw [hx.out, if_pos (Or.inr hy.out)]), by go_grown⟩
    · have y1 : ((m : Int) == 0) = false := by rw [beq_eq_false_iff_ne]; omega
      go_enter Tryz.func178, Tryz.ntmps178
      go_wp2_with (go_at_call 182; refine (bytes_Compare (Kd.C_alloc H2.out _) (Kd.C_alloc H1.out _) hk hl).mono ?_; rintro e w' ⟨rfl, rfl⟩)
      go_ret
      exact ⟨ret_int (by rw [hx.out, if_neg (by omega)]), by go_grown⟩

set_option maxHeartbeats 400000 in
theorem shorter_Compare {w : World} {A B : Option Addr} {n c m d : Nat} {l k : List Int} (h : Kd.C (Kd.int .u8) w A n l) (g : Kd.C (Kd.int .u8) w B m k) (hl : Byt l) (hk : Byt k) :
    Calls Tryz.prog 184 #[.agg #[], .slice A n c, .slice B m d] w fun e w' => e = .returned (.int .i64 (cmpO 2 l k)) ∧ Below w.heap.size w w' := by
  have H1 := Lib.hid h
  have H2 := Lib.hid g
  have en := Kd.C_len h
  have em := Kd.C_len g
  have hx : Hid (cmpO 2 l k = if l.length = k.length then cmpI l k else if l.length < k.length then -1 else 1) := by unfold cmpO; rw [if_neg (by omega), if_pos rfl]; rfl
  clear h g
  rw [en, em] at hx
  clear en em
  by_cases z : n = m
  · have z1 : ((n : Int) != (m : Int)) = false := by rw [bne_eq_false_iff_eq]; omega
    have hz := Lib.hid z
    clear z
    go_enter Tryz.func184, Tryz.ntmps184
    go_wp2_with (go_at_call 182; refine (bytes_Compare (Kd.C_alloc H1.out _) (Kd.C_alloc H2.out _) hl hk).mono ?_; rintro e w' ⟨rfl, rfl⟩)
    go_ret
    exact ⟨ret_int (by rw [hx.out, if_pos hz.out]), by go_grown⟩
  · have z1 : ((n : Int) != (m : Int)) = true := by rw [bne_iff_ne]; omega
    by_cases y : n < m
    · go_enter Tryz.func184, Tryz.ntmps184
      go_wp2
      go_ret
      exact ⟨ret_int (by rw [hx.out, if_neg z, if_pos y]), by go_grown⟩
    · go_enter Tryz.func184, Tryz.ntmps184
      go_wp2
      go_ret
      exact ⟨ret_int (by rw [hx.out, if_neg z, if_neg y]), by go_grown⟩

set_option maxHeartbeats 400000 in
theorem orderOf_calls (o : Int) (w : World) :
    Calls Tryz.prog 58 #[.int .i64 o] w fun e w' => e = .returned (ordV o) ∧ w = w' := by
  by_cases a : o = 1
  · subst a
    go_enter Tryz.func58, Tryz.ntmps58
    go_wp2
    go_ret
    exact ⟨rfl, rfl⟩
  · have a1 : (o == 1) = false := by rw [beq_eq_false_iff_ne]; exact a
    by_cases b : o = 2
    · subst b
      go_enter Tryz.func58, Tryz.ntmps58
      go_wp2
      go_ret
      exact ⟨rfl, rfl⟩
    · have b1 : (o == 2) = false := by rw [beq_eq_false_iff_ne]; exact b
      have hv : Hid (ordV o = .iface 157 (.agg #[])) := by unfold ordV; rw [if_neg a, if_neg b]; rfl
      go_enter Tryz.func58, Tryz.ntmps58
      go_wp2
      go_ret
      exact ⟨ret_v hv.out.symm, rfl⟩

end Go.Proofs.YtdkkkikcigjlhaaGreatDoor.Con

namespace Go.Proofs.YtdkkkikcigjlhaaGreatDoor.Md
open Go.RowKit Go.Proofs.YtdkkkikcigjlhaaGreatDoor.Con Go.Proofs.YtdkkkikcigjlhaaGreatDoor.Run Go.Proofs.YtdkkkikcigjlhaaGreatDoorW.PrintWords Go.Proofs.YtdkkkikcigjlhaaGreatDoorW.PrintMore Go.Proofs.YtdkkkikcigjlhaaGreatDoor.Cmp

theorem info_u8 : (Tryz.prog.info? 5).map (fun i => (i.zero, i.size, i.bytes)) = some (some (.int .u8 0), 1, 1) := by kernel_rfl
theorem C_ints {w : World} {k : IntKind} {A : Option Addr} {n : Nat} {l : List Int} (h : Kd.C (Kd.int k) w A n l) : ReadsInt w k A n l := Kd.reads_of_C (d := (0 : Int)) h
theorem ints_C {w : World} {k : IntKind} {A : Option Addr} {n : Nat} {l : List Int} (h : ReadsInt w k A n l) : Kd.C (Kd.int k) w A n l := Kd.C_of_reads (d := (0 : Int)) (h1 := fun _ => rfl) h
theorem still_tail {P : Program} {id : Nat} {Q : Exit → Act → World → Prop} {a : Act} {w : World} {l : List Oper} (n : Nat) (hm : P.follows .mixedOrders = true) (hB : Region.lexTailB .any l.toArray n = true)
    (h : ∀ W, W = w.drew → wpStill P l.toArray W (fun a' => wpList P l.toArray Q (l.drop n) a' W) (l.take n) a) : (Code.region id l.toArray true).wp P Q a w :=
  wp_region_still_tail n hm hB (h _ rfl)

theorem own_slice {w : World} {base n size : Nat} {e : TypeId} {v : Value} {xs : List Value} (h : w.ownsRow base e size v n xs) : ∃ A c, v = .slice A n c := by
  rcases h.2 with ⟨rfl, h2⟩ | ⟨g, cap, cur, rfl, _⟩
  · have : n = 0 := by first | exact h2.1 | exact h2 | omega
    exact ⟨none, 0, by rw [this]⟩
  · exact ⟨_, _, rfl⟩

theorem below_alloc' {B : Nat} {w W : World} (h : Below B w W) (o : Obj) (hB : B ≤ W.heap.size := by exact Below.size (by assumption)) : Below B w (W.alloc o) := h.alloc hB o

theorem own_cell {w : World} {base n size : Nat} {e : TypeId} {v : Value} {xs : List Value} (h : w.ownsRow base e size v n xs) (hn : 0 < n) : ∃ g c, v = .slice (some ⟨g, 0, none⟩) n c ∧ base ≤ g ∧ ∀ i u, xs[i]? = some u → w.cell? ⟨g, i, none⟩ = some u := by
  rcases h.2 with ⟨rfl, h2⟩ | ⟨g, cap, cur, rfl, hb, hh, _, _, _, h3⟩
  · omega
  · refine ⟨g, cap, rfl, hb, fun i u hi => ?_⟩
    rw [blk_cell hh i]
    rw [← h3] at hi
    rcases Nat.lt_or_ge i (n * size) with q | q
    · rw [List.getElem?_take_of_lt q] at hi
      simpa using hi
    · rw [List.getElem?_eq_none (by simp; omega)] at hi
      cases hi

theorem C_same {w w' : World} {A : Option Addr} {n : Nat} {l : List Int} (h : Kd.C (Kd.int .u8) w A n l) (hb : ∀ a, A = some a → w'.heap[a.block]? = w.heap[a.block]?) : Kd.C (Kd.int .u8) w' A n l := by
  obtain ⟨h1, h2, h3⟩ := C_ints h
  refine ints_C ⟨h1, h2, fun hn => ?_⟩
  obtain ⟨a, ha, hc⟩ := h3 hn
  refine ⟨a, ha, fun j hj => ?_⟩
  rw [← hc j hj]
  have e : (a.add j).block = a.block := by unfold Addr.add; split <;> rfl
  unfold World.cell?
  rw [e, hb a ha]

theorem grown_set (w : World) (dg i : Nat) (v : Value) : w.grownBy (w.setCell ⟨dg, i, none⟩ v) (some dg) :=
  ⟨rfl, rfl, rfl, by simp, fun k _ hk => Below.heap_setCell _ _ _ k (fun e => hk (by rw [e]))⟩

def CutB (w : World) (ok : Nat → Prop) (v : Value) (l : List Int) : Prop := ∃ A c, v = .slice A l.length c ∧ Kd.C (Kd.int .u8) w A l.length l ∧ l.length ≤ c ∧ ∀ a, A = some a → ok a.block

theorem CutB.imp {w w' : World} {ok ok' : Nat → Prop} {v : Value} {l : List Int} (h : CutB w ok v l) (hk : ∀ b, ok b → w'.heap[b]? = w.heap[b]? ∧ ok' b) : CutB w' ok' v l := by
  obtain ⟨A, c, h1, h2, h3, h4⟩ := h
  exact ⟨A, c, h1, C_same h2 (fun a ha => (hk _ (h4 a ha)).1), h3, fun a ha => (hk _ (h4 a ha)).2⟩

theorem append_row_step {P : Program} {ops : Array Oper} {o : Oper} {a : Act} {Q : Exit → Act → World → Prop} {Kc : Act → World → Prop} {w0 W : World} (base : Nat)
    (hw : Region.wanted o (yielded ops a.tmps) = true) (s x : Operand) (t e : TypeId)
    (ho : o.op = .call { callee := .builtin .append, args := #[s, x], argTypes := #[t, t] })
    (ht : P.underlying t = some (.slice e)) (hinfo : (P.info? e).map (fun i => (i.zero, i.size, i.bytes)) = some (some (.int .u8 0), 1, 1))
    (v : Value) (xs ys : List Int) (A : Option Addr) (m c : Nat) (hs : a.eval s = v) (hx : a.eval x = .slice A m c)
    (HO : W.ownsRow base e 1 v xs.length (nums .u8 xs)) (HR : Kd.C (Kd.int .u8) W A m ys) (HB : Below base w0 W) (hbase : base ≤ W.heap.size) (hl : xs.length + m ≤ 140737488355328)
    (h : ∀ v1 w1, w1.ownsRow base e 1 v1 (xs ++ ys).length (nums .u8 (xs ++ ys)) → Below base w0 w1 → W.grownBy w1 v.ownBlock → (v1.ownBlock = v.ownBlock ∨ ∃ b, v1.ownBlock = some b ∧ W.heap.size ≤ b) → Kc (a.put o.dst v1) w1) :
    if Region.wanted o (yielded ops a.tmps) = true then Oper.wp P o a W Kc Q else Kc (a.put o.dst undef) W :=
  Kd.R_append_rows_step (Kd.int .u8) (Rr := (Kd.int .u8).K W) base hw s x t e (.int .u8 0) 1 ho ht hinfo rfl (by decide) (by decide) v xs ys A m c (fun _ => True) (fun _ => False) hs hx
    (Kd.R_of_own HO (fun _ _ => trivial)) HR (fun _ _ h => h) (fun _ h => h.elim) (fun _ _ => trivial) HB hbase (by omega)
    (fun v1 w1 h1 h2 h3 h4 => h v1 w1 (Kd.own_of_R h1) h2 h3 h4)

end Go.Proofs.YtdkkkikcigjlhaaGreatDoor.Md

namespace Go.Proofs.YtdkkkikcigjlhaaGreatDoor.Md
open Go.RowKit Go.Proofs.YtdkkkikcigjlhaaGreatDoor.Con Go.Proofs.YtdkkkikcigjlhaaGreatDoor.Run Go.Proofs.YtdkkkikcigjlhaaGreatDoorW.PrintWords Go.Proofs.YtdkkkikcigjlhaaGreatDoorW.PrintMore Go.Proofs.YtdkkkikcigjlhaaGreatDoor.Cmp Go.Sort Go.Proofs.YtdkkkikcigjlhaaGreatDoor.PFnMemMap

theorem sp_drop_rd (l : List Int) (i : Nat) (h : i < l.length) : l.drop i = rd l (i : Int) :: l.drop (i + 1) := by
  rw [List.drop_eq_getElem_cons h]
  simp [rd, List.getD_eq_getElem?_getD, h]

theorem sp_up (i : Nat) (n : Nat) (h : i < n) (hn : n ≤ 9223372036854775807) : wrap64 ((i : Int) + 1) = ((i + 1 : Nat) : Int) := by
  unfold wrap64; omega

theorem sp_cons (x y : Int) (l m : List Int) : cmpI (x :: l) (y :: m) = if x < y then -1 else if y < x then 1 else cmpI l m := rfl

theorem sp_cmp_l0 (l m : List Int) (hl : l.length ≤ 9223372036854775807) (d : Nat) : ∀ i : Nat, l.length - i = d → i ≤ l.length → i ≤ m.length → ∀ k, 2 * d + 2 ≤ k →
    spec_BytesCompare.l0 k l m (i : Int) = some (cmpI (l.drop i) (m.drop i)) := by
  induction d with
  | zero =>
    intro i h1 h2 h3 k hk
    obtain ⟨k, rfl⟩ : ∃ q, k = q + 2 := ⟨k - 2, by omega⟩
    have e : l.drop i = [] := List.drop_eq_nil_of_le (by omega)
    simp only [spec_BytesCompare.l0]
    rw [if_neg (by omega)]
    simp only [spec_BytesCompare.j1]
    rw [if_neg (by simp), e]
    rcases Nat.lt_or_ge i m.length with c | c
    · rw [if_pos (by omega), sp_drop_rd m i c]
      rfl
    · rw [if_neg (by omega), if_neg (by omega), List.drop_eq_nil_of_le c]
      rfl
  | succ d ih =>
    intro i h1 h2 h3 k hk
    obtain ⟨k, rfl⟩ : ∃ q, k = q + 2 := ⟨k - 2, by omega⟩
    have hi : i < l.length := by omega
    simp only [spec_BytesCompare.l0]
    rw [if_pos (by omega)]
    simp only [spec_BytesCompare.j1]
    by_cases hm : i < m.length
    · rw [if_pos (by rw [decide_eq_true_iff]; omega), if_pos (by omega), if_pos (by omega), if_pos (by omega), sp_drop_rd l i hi, sp_drop_rd m i hm, sp_cons]
      by_cases h : rd l (i : Int) < rd m (i : Int)
      · rw [if_pos h, if_pos h]
      · rw [if_neg h, if_neg h]
        by_cases g : rd l (i : Int) > rd m (i : Int)
        · rw [if_pos g, if_pos g]
        · rw [if_neg g, if_neg g, sp_up i l.length hi hl, ih (i + 1) (by omega) (by omega) (by omega) k (by omega)]
    · rw [if_neg (by simp; omega), sp_drop_rd l i hi, List.drop_eq_nil_of_le (by omega : m.length ≤ i), if_neg (by omega), if_pos (by omega)]
      rfl

theorem sp_compare (l m : List Int) (hl : l.length ≤ 9223372036854775807) (k : Nat) (hk : 2 * l.length + 2 ≤ k) : spec_BytesCompare.f k l m = some (cmpI l m) := by
  have h := sp_cmp_l0 l m hl l.length 0 (by omega) (by omega) (by omega) k hk
  simpa [spec_BytesCompare.f] using h

theorem sp_same (l m : List Int) (hl : l.length ≤ 9223372036854775807) (k : Nat) (hk : 2 * l.length + 2 ≤ k) : spec_BytesSame.f k l m = some (decide (l = m)) := by
  unfold spec_BytesSame.f
  rw [sp_compare l m hl k hk]
  simp only [Option.bind_some]
  congr 1
  have h2 := @cmpI_zero l m
  by_cases e : l = m
  · simp [e, cmpI_refl]
  · have : ¬ cmpI l m = 0 := fun z => e (h2.1 z)
    simp [e, this]

def Sg (v u : Int) : Prop := (v < 0 ↔ u < 0) ∧ (v = 0 ↔ u = 0)
theorem Sg.refl (v : Int) : Sg v v := ⟨Iff.rfl, Iff.rfl⟩

theorem sp_j0 (k : Nat) (o : Int) (l m : List Int) (b : Bool) : spec_OrderCompare.j0 (k + 1) o l m b = if b = true then ((spec_BytesCompare.f k m l).bind fun t131 => (some t131)) else (if o = 2 then (if (l.length : Int) = (m.length : Int) then ((spec_BytesCompare.f k l m).bind fun t132 => (some t132)) else (some (wrap64 ((l.length : Int) - (m.length : Int))))) else ((spec_BytesCompare.f k l m).bind fun t133 => (some t133))) := by
  rw [spec_OrderCompare.j0]

theorem sp_order (o : Int) (l m : List Int) (hl : l.length ≤ 4294967296) (hm : m.length ≤ 4294967296) : ∃ v, Sg v (cmpO o l m) ∧ ∀ k, 2 * l.length + 2 * m.length + 3 ≤ k → spec_OrderCompare.f k o l m = some v := by
  by_cases h1 : o = 1
  · subst h1
    refine ⟨cmpO 1 l m, Sg.refl _, fun k hk => ?_⟩
    obtain ⟨k, rfl⟩ : ∃ q, k = q + 1 := ⟨k - 1, by omega⟩
    unfold spec_OrderCompare.f cmpO
    rw [if_pos rfl, if_pos rfl]
    by_cases a : l.length = 0
    · rw [if_neg (by omega), if_pos (.inl a)]
      rw [sp_j0]
      rw [if_neg (by simp), if_neg (by decide), sp_compare l m (by omega) k (by omega)]
      rfl
    · rw [if_pos (by omega)]
      by_cases b : m.length = 0
      · rw [if_pos (.inr b), decide_eq_false (by omega)]
        rw [sp_j0]
        rw [if_neg (by simp), if_neg (by decide), sp_compare l m (by omega) k (by omega)]
        rfl
      · rw [if_neg (by omega), decide_eq_true (by omega)]
        rw [sp_j0]
        rw [if_pos rfl, sp_compare m l (by omega) k (by omega)]
        rfl
  · by_cases h2 : o = 2
    · subst h2
      by_cases a : l.length = m.length
      · refine ⟨cmpO 2 l m, Sg.refl _, fun k hk => ?_⟩
        obtain ⟨k, rfl⟩ : ∃ q, k = q + 1 := ⟨k - 1, by omega⟩
        unfold spec_OrderCompare.f cmpO
        rw [if_neg (by decide), if_neg (by decide), if_pos rfl, if_pos a]
        rw [sp_j0]
        rw [if_neg (by simp), if_pos rfl, if_pos (by omega), sp_compare l m (by omega) k (by omega)]
        rfl
      · refine ⟨(l.length : Int) - (m.length : Int), ?_, fun k hk => ?_⟩
        · unfold cmpO Sg
          rw [if_neg (by decide), if_pos rfl, if_neg a]
          by_cases b : l.length < m.length
          · rw [if_pos b]; omega
          · rw [if_neg b]; omega
        · obtain ⟨k, rfl⟩ : ∃ q, k = q + 1 := ⟨k - 1, by omega⟩
          unfold spec_OrderCompare.f
          rw [if_neg (by decide)]
          rw [sp_j0]
          rw [if_neg (by simp), if_pos rfl, if_neg (by omega)]
          congr 1
          unfold wrap64; omega
    · refine ⟨cmpO o l m, Sg.refl _, fun k hk => ?_⟩
      obtain ⟨k, rfl⟩ : ∃ q, k = q + 1 := ⟨k - 1, by omega⟩
      unfold spec_OrderCompare.f cmpO
      rw [if_neg h1, if_neg h1, if_neg h2]
      rw [sp_j0]
      rw [if_neg (by simp), if_neg h2, sp_compare l m (by omega) k (by omega)]
      rfl

def kvC (l : List S36) : List KV := l.map fun x => (x.f0, x.f1)

theorem rd36 (l : List S36) (i : Nat) (h : i < l.length) : l.drop i = rd_T36 l (i : Int) :: l.drop (i + 1) := by
  rw [List.drop_eq_getElem_cons h]
  simp [rd_T36, List.getD_eq_getElem?_getD, h]

theorem sp_find_l0 (o : Int) (l : List S36) (key : List Int) (m : Nat) (hm : m ≤ 4294967296) (hk : key.length ≤ m) (hx : ∀ x ∈ l, x.f0.length ≤ m) (hl : l.length ≤ 4294967296) (d : Nat) : ∀ i : Nat, l.length - i = d → i ≤ l.length → ∀ k, d + 4 * m + 4 ≤ k →
    spec_CursorFind.l0 k o l key (i : Int) = some (((i + findL (cmpO o) key (kvC (l.drop i)) : Nat)) : Int) := by
  induction d with
  | zero =>
    intro i h1 h2 k hk'
    obtain ⟨k, rfl⟩ : ∃ q, k = q + 1 := ⟨k - 1, by omega⟩
    have e : l.drop i = [] := List.drop_eq_nil_of_le (by omega)
    simp only [spec_CursorFind.l0]
    rw [if_neg (by omega), e]
    rfl
  | succ d ih =>
    intro i h1 h2 k hk'
    obtain ⟨k, rfl⟩ : ∃ q, k = q + 1 := ⟨k - 1, by omega⟩
    have hi : i < l.length := by omega
    have hd := rd36 l i hi
    have hmem : rd_T36 l (i : Int) ∈ l := List.mem_of_mem_drop (i := i) (by rw [hd]; simp)
    have hxl := hx _ hmem
    obtain ⟨v, hs, hv⟩ := sp_order o (rd_T36 l (i : Int)).f0 key (by omega) (by omega)
    simp only [spec_CursorFind.l0]
    rw [if_pos (by omega), if_pos (by omega), hv k (by omega)]
    simp only [Option.bind_some]
    rw [hd]
    simp only [kvC, List.map_cons, findL]
    by_cases q : v < 0
    · rw [if_pos q, if_pos (hs.1.1 q), sp_up i l.length hi (by omega), ih (i + 1) (by omega) (by omega) k (by omega)]
      simp only [kvC]
      congr 2
      omega
    · rw [if_neg q, if_neg (fun z => q (hs.1.2 z))]
      rfl

theorem sp_find (o : Int) (l : List S36) (key : List Int) (m : Nat) (hm : m ≤ 4294967296) (hk : key.length ≤ m) (hx : ∀ x ∈ l, x.f0.length ≤ m) (hl : l.length ≤ 4294967296) : ∃ k, spec_CursorFind.f k o l key = some ((findL (cmpO o) key (kvC l) : Nat) : Int) := by
  refine ⟨l.length + 4 * m + 4, ?_⟩
  have h := sp_find_l0 o l key m hm hk hx hl l.length 0 (by omega) (by omega) _ (Nat.le_refl _)
  simpa [spec_CursorFind.f] using h

section
variable {w : World} {A B : Option Addr} {c d : Nat}

theorem same_calls {l k : List Int} (hA : Kd.C (Kd.int .u8) w A l.length l) (hc : l.length ≤ c) (hB : Kd.C (Kd.int .u8) w B k.length k) (hd : k.length ≤ d) :
    Calls Tryz.prog 20 #[.slice A l.length c, .slice B k.length d] w fun e w' => e = .returned (.bool (decide (l = k))) ∧ Below w.heap.size w w' := by
  refine (spec_BytesSame.calls (2 * l.length + 2) A c l B d k _ w hA hc hB hd (sp_same l k (Kd.C_max hA) _ (Nat.le_refl _))).mono ?_
  rintro e w' ⟨rfl, hw⟩
  exact ⟨rfl, hw.below⟩

theorem find_calls (o : Int) {l : List S36} {key : List Int} (hA : Kd.C k36 w A l.length l) (hc : l.length ≤ c) (hB : Kd.C (Kd.int .u8) w B key.length key) (hd : key.length ≤ d) (hk : key.length ≤ 4294967296) (hx : ∀ x ∈ l, x.f0.length ≤ 4294967296) (hl : l.length ≤ 4294967296) :
    Calls Tryz.prog 35 #[.int .i64 o, .slice A l.length c, .slice B key.length d] w fun e w' => e = .returned (.int .i64 ((findL (cmpO o) key (kvC l) : Nat) : Int)) ∧ Below w.heap.size w w' := by
  obtain ⟨k, h⟩ := sp_find o l key 4294967296 (Nat.le_refl _) hk hx hl
  refine (spec_CursorFind.calls k o A c l B d key _ w hA hc hB hd h).mono ?_
  rintro e w' ⟨rfl, hw⟩
  exact ⟨rfl, hw.below⟩
end

def hitL (f : List Int → List Int → Int) (key : List Int) (L : List KV) : Bool := match L[findL f key L]? with
  | some x => decide (x.1 = key)
  | none => false

theorem kvC_take (l : List S36) (n : Nat) : kvC (l.take n) = (kvC l).take n := List.map_take
theorem kvC_drop (l : List S36) (n : Nat) : kvC (l.drop n) = (kvC l).drop n := List.map_drop
theorem kvC_app (l k : List S36) : kvC (l ++ k) = kvC l ++ kvC k := List.map_append
theorem kvC_len (l : List S36) : (kvC l).length = l.length := List.length_map _
theorem kvC_get (l : List S36) (n : Nat) : (kvC l)[n]? = l[n]?.map fun x => (x.f0, x.f1) := List.getElem?_map

def putC (f : List Int → List Int → Int) (key val : List Int) (l : List S36) : List S36 :=
  (l.take (findL f key (kvC l)) ++ [⟨key, val⟩]) ++ (if hitL f key (kvC l) = true then l.drop (findL f key (kvC l) + 1) else l.drop (findL f key (kvC l)))

theorem putC_len (f : List Int → List Int → Int) (key val : List Int) (l : List S36) : (putC f key val l).length ≤ l.length + 1 := by
  have h := findL_le f key (kvC l)
  rw [kvC_len] at h
  unfold putC
  simp only [List.length_append, List.length_take, List.length_singleton]
  split
  · rw [List.length_drop]; omega
  · rw [List.length_drop]; omega

theorem putC_all {f : List Int → List Int → Int} {p : S36 → Prop} {key val : List Int} (hp : p ⟨key, val⟩) (l : List S36) (h : ∀ x ∈ l, p x) : ∀ x ∈ putC f key val l, p x := by
  intro x hx
  unfold putC at hx
  simp only [List.mem_append, List.mem_singleton] at hx
  rcases hx with (hx | hx) | hx
  · exact h x (List.mem_of_mem_take hx)
  · rw [hx]; exact hp
  · split at hx
    · exact h x (List.mem_of_mem_drop hx)
    · exact h x (List.mem_of_mem_drop hx)

def asC (l : List S44) : List S36 := l.map fun x => ⟨x.f0, x.f1⟩
theorem asC_kv (l : List S44) : kvC (asC l) = l.map fun x => (x.f0, x.f1) := by simp [kvC, asC]

end Go.Proofs.YtdkkkikcigjlhaaGreatDoor.Md
