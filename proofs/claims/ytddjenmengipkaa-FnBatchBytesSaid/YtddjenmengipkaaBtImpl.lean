/- Batches as goleveldb keeps them: the index's rows, small methods. -/
import Derived.Test.YtddjenmengipkaaBtReadB
namespace Go.Proofs.Ytddjenmengipkaa.Bt
open Go.RowKit Go.Proofs.YtddjenmengipkaaW.PrintWords Go.Proofs.YtddjenmengipkaaW.PrintMore Go.Proofs.Ytddjenmengipkaa.PFnBatchLoads Go.Proofs.Ytddjenmengipkaa.Cmp
set_option linter.unusedVariables false

/-- a row of a batch's index: kind, key's place and length, value's place and length -/
structure Ix where
  kt : Nat
  kp : Nat
  kl : Nat
  vp : Nat
  vl : Nat

def Ix.cells (x : Ix) : List Value := [.int .u64 x.kt, .int .i64 x.kp, .int .i64 x.kl, .int .i64 x.vp, .int .i64 x.vl]

/-- what a row says of bytes -/
def Ix.Is (l : List Int) (x : Ix) (r : Rec) : Prop :=
  x.kp + x.kl ≤ l.length ∧ x.vp + x.vl ≤ l.length ∧ r.2.1 = (l.drop x.kp).take x.kl ∧ r.2.2 = (l.drop x.vp).take x.vl ∧ ((x.kt = 1 ∧ r.1 = false) ∨ (x.kt = 0 ∧ r.1 = true ∧ x.vl = 0))

/-- a whole index: its cells, and the records that it says -/
inductive IxW (l : List Int) : List Value → List Rec → Prop
  | nil : IxW l [] []
  | step {cs : List Value} {rs : List Rec} {x : Ix} {r : Rec} : IxW l cs rs → x.Is l r → IxW l (cs ++ x.cells) (rs ++ [r])

set_option maxHeartbeats 400000 in
set_option maxRecDepth 100000 in
theorem newErr_calls {w : World} (s : ByteArray) : Calls Try.prog 37 #[.string s] w fun e w' => (∃ t v, e = .returned (.iface t v)) ∧ Below w.heap.size w w' := by
  go_enter Try.func37, Try.ntmps37
  go_wp2
  go_ret
  exact ⟨⟨_, _, rfl⟩, by repeat (first | exact Below.refl _ _ | apply below_alloc)⟩

set_option maxHeartbeats 400000 in
set_option maxRecDepth 100000 in
theorem Len_calls {w : World} {g : Nat} {vd : Value} {A : Option Addr} {n c : Nat} {il : Int} (h : w.heap[g]? = some (.cells #[vd, .slice A n c, .int .i64 il] 45 (0, 0))) :
    Calls Try.prog 20 #[.pointer (some ⟨g, 0, none⟩)] w fun e w' => e = .returned (.int .i64 n) ∧ w' = w := by
  have e1 := blk_cell h 1
  simp at e1
  go_enter Try.func20, Try.ntmps20
  go_wp2
  go_ret
  exact ⟨rfl, rfl⟩

theorem mid_of (A : Option Addr) (c : Nat) (xs : List Int) (a b : Nat) (h1 : a ≤ b) (hm : b ≤ xs.length) (hc : xs.length ≤ c) :
    ∃ v, (∀ W : World, (Instr.slice 22 (.slice A xs.length c) (some (.int .i64 (a : Int))) (some (.int .i64 (b : Int))) none).run Try.prog W = .ok v W) ∧ ∀ w : World, Kd.C (Kd.int .u8) w A xs.length xs → Cut w v ((xs.take b).drop a) := by
  obtain ⟨i0, hi, hzz⟩ := Option.map_eq_some_iff.1 info_u8
  simp only [Prod.mk.injEq] at hzz
  obtain ⟨A', h1, h2, h3⟩ := print_mid_of (P := Try.prog) (Value.int .u8) (0 : Int) 22 5 .i64 .i64 (by kernel_rfl) hi hzz.2.1 A c xs (a : Int) (b : Int) (by omega) (by omega) (by omega) hc
  have ea : (a : Int).toNat = a := Int.toNat_natCast a
  have eb : (b : Int).toNat = b := Int.toNat_natCast b
  rw [ea, eb] at h1 h2 h3
  exact ⟨.slice A' ((xs.take b).drop a).length (c - a), h1, fun w h => ⟨A', c - a, rfl, ints_C (h2 w (C_ints h)), h3⟩⟩

theorem take_drop (l : List Int) (a b : Nat) : (l.take (a + b)).drop a = (l.drop a).take b := by
  rw [List.drop_take]; simp

set_option maxHeartbeats 400000 in
set_option maxRecDepth 100000 in
theorem k_calls {w0 w : World} {A : Option Addr} {c : Nat} {l : List Int} {kt kp kl vp vl : Nat} (h : Kd.C (Kd.int .u8) w0 A l.length l) (hc : l.length ≤ c) (hl : l.length ≤ 4294967296) (hk : kp + kl ≤ l.length) :
    Calls Try.prog 31 #[.agg #[.int .u64 kt, .int .i64 kp, .int .i64 kl, .int .i64 vp, .int .i64 vl], .slice A l.length c] w fun e w' => (∃ v, e = .returned v ∧ Cut w0 v ((l.drop kp).take kl)) ∧ Below w.heap.size w w' := by
  obtain ⟨v, s1, s2⟩ := mid_of A c l kp (kp + kl) (by omega) hk hc
  have HS := Lib.hid (s2 w0 h)
  clear s2 h
  rw [take_drop] at HS
  simp only [Int.natCast_add] at s1
  generalize l.length = n at *
  have hb2 : kp + kl ≤ 4294967296 := by omega
  have HC := Lib.hid hc
  clear hc
  go_enter Try.func31, Try.ntmps31
  go_wp2
  go_ret
  exact ⟨⟨v, rfl, HS.out⟩, by repeat (first | exact Below.refl _ _ | apply below_alloc)⟩

set_option maxHeartbeats 400000 in
set_option maxRecDepth 100000 in
theorem v_calls {w0 w : World} {A : Option Addr} {c : Nat} {l : List Int} {kt kp kl vp vl : Nat} (h : Kd.C (Kd.int .u8) w0 A l.length l) (hc : l.length ≤ c) (hl : l.length ≤ 4294967296) (hk : vp + vl ≤ l.length) :
    Calls Try.prog 32 #[.agg #[.int .u64 kt, .int .i64 kp, .int .i64 kl, .int .i64 vp, .int .i64 vl], .slice A l.length c] w fun e w' => (∃ v, e = .returned v ∧ Cut w0 v ((l.drop vp).take vl)) ∧ Below w.heap.size w w' := by
  by_cases h0 : vl = 0
  · subst h0
    clear h hc
    go_enter Try.func32, Try.ntmps32
    go_wp2
    go_ret
    exact ⟨⟨_, rfl, by rw [List.take_zero]; exact Cut.nil w0⟩, by repeat (first | exact Below.refl _ _ | apply below_alloc)⟩
  · obtain ⟨v, s1, s2⟩ := mid_of A c l vp (vp + vl) (by omega) hk hc
    have HS := Lib.hid (s2 w0 h)
    clear s2 h
    rw [take_drop] at HS
    simp only [Int.natCast_add] at s1
    generalize l.length = n at *
    have hb2 : vp + vl ≤ 4294967296 := by omega
    have HC := Lib.hid hc
    clear hc
    have h0 : ¬ (vl : Int) = 0 := by omega
    go_enter Try.func32, Try.ntmps32
    go_wp2
    go_ret
    exact ⟨⟨v, rfl, HS.out⟩, by repeat (first | exact Below.refl _ _ | apply below_alloc)⟩

end Go.Proofs.Ytddjenmengipkaa.Bt
