/- Walks that print.sh printed (a cut). -/
import Derived.Test.YtdkkkikcigjlhaaGreatDoorProg
import Derived.Below
import Derived.Deep.Draws
import Derived.Deep.AppendLies
import Derived.Maps.AppendAt
import Derived.OwnWalk
import Derived.Laws.BytesArg
import Derived.Laws.MakeOwn
import Derived.Laws.OwnMore
import Derived.Deep.OwnRows
import Derived.Tactics
import Derived.Lib.ConvBytes
import Derived.Laws.Slices
import Derived.WalkKit
import Derived.KernelRfl
import Derived.RowKit3
import Derived.Deep.LoopGhost
import Derived.Deep.QuietTactic
import Derived.BigQuiet
import Derived.WideLaws
import Derived.Deep.DeepCutAuto
import Derived.Deep.CutBlock
import Derived.Deep.RegionHeld3
import Derived.Laws.Rows
import Derived.Lib.AppendStr
import Derived.ArgAppend
import Derived.Laws.IdiomCopy
import Derived.OrdersHeld
import Derived.Laws.BitsLemmas
import Derived.RowKit
import Derived.Test.YtdkkkikcigjlhaaGreatDoorMj01
import Derived.Test.YtdkkkikcigjlhaaGreatDoorMj02
import Derived.Test.YtdkkkikcigjlhaaGreatDoorMj03
import Derived.Test.YtdkkkikcigjlhaaGreatDoorMj04
import Derived.Test.YtdkkkikcigjlhaaGreatDoorMj05
set_option linter.unusedVariables false
set_option linter.unusedSimpArgs false
namespace Go.Proofs.YtdkkkikcigjlhaaGreatDoor.PFnMemMap
open Go.RowKit Go.Proofs.YtdkkkikcigjlhaaGreatDoorW.PrintWords Go.Proofs.YtdkkkikcigjlhaaGreatDoorW.PrintLast Go.Proofs.YtdkkkikcigjlhaaGreatDoorW.PrintMore
attribute [local go_sem] max2_int min2_int max_two min_two max_three min_three max_four min_four   -- for this text's walks alone

def errW : Option Int → Value
  | none => .nilIface
  | some c => .iface 0 (.int .i64 c)
theorem errW_none : errW none = .nilIface := rfl
theorem errW_some (c : Int) : errW (some c) = .iface 0 (.int .i64 c) := rfl

theorem info5 : (Tryz.prog.info? 5).map (fun i => (i.zero, i.size, i.bytes)) = some (some (.int .u8 0), 1, 1) := by kernel_rfl
theorem info36 : (Tryz.prog.info? 36).map (fun i => (i.zero, i.size, i.bytes)) = some (some (.agg #[(.slice none 0 0), (.slice none 0 0)]), 2, 48) := by kernel_rfl
theorem info44 : (Tryz.prog.info? 44).map (fun i => (i.zero, i.size, i.bytes)) = some (some (.agg #[(.slice none 0 0), (.slice none 0 0)]), 2, 48) := by kernel_rfl
-- the values' own types
/-! #### struct type 44 -/
structure S44 where
  f0 : (List Int)
  f1 : (List Int)
def z44 : S44 := ⟨([] : List Int), ([] : List Int)⟩
def k44 : Kd S44 := Kd.iso (Kd.pair (Kd.slice 5 (Kd.int .u8)) (Kd.slice 5 (Kd.int .u8))) (fun x : S44 => (x.f0, x.f1))
theorem k44_open {w : World} {x : S44} {cs : List Value} (h : k44.K w x cs) : ∃ A0 c0 A1 c1, cs = [.slice A0 x.f0.length c0, .slice A1 x.f1.length c1] ∧ x.f0.length ≤ c0 ∧ (Kd.int .u8).C w A0 x.f0.length x.f0 ∧ x.f1.length ≤ c1 ∧ (Kd.int .u8).C w A1 x.f1.length x.f1 := by
  obtain ⟨_, _, rfl, ⟨A0, c0, rfl, l0, g0⟩, ⟨A1, c1, rfl, l1, g1⟩⟩ := h
  exact ⟨A0, c0, A1, c1, rfl, l0, g0, l1, g1⟩
theorem k44_mk (w : World) (x : S44) {A0 : Option Addr} {c0 : Nat} (l0 : x.f0.length ≤ c0) (g0 : (Kd.int .u8).C w A0 x.f0.length x.f0) {A1 : Option Addr} {c1 : Nat} (l1 : x.f1.length ≤ c1) (g1 : (Kd.int .u8).C w A1 x.f1.length x.f1) : k44.K w x [.slice A0 x.f0.length c0, .slice A1 x.f1.length c1] := ⟨[.slice A0 x.f0.length c0], [.slice A1 x.f1.length c1], rfl, ⟨A0, c0, rfl, l0, g0⟩, ⟨A1, c1, rfl, l1, g1⟩⟩
theorem k44_mkM (w : World) (base : Nat) (ok : Nat → Prop) (x : S44) {v0 : Value} (g0 : (Kd.int .u8).R 5 w base ok v0 x.f0) {v1 : Value} (g1 : (Kd.int .u8).R 5 w base ok v1 x.f1) : k44.M w base ok x [v0, v1] := ⟨[v0], [v1], rfl, ⟨v0, rfl, g0⟩, ⟨v1, rfl, g1⟩⟩
theorem k44_openF {W : World} {ok : Nat → Prop} {x : S44} {cs : List Value} (h : Kd.FK k44 W ok x cs) : ∃ A0 c0 A1 c1, cs = [.slice A0 x.f0.length c0, .slice A1 x.f1.length c1] ∧ x.f0.length ≤ c0 ∧ Kd.F (Kd.int .u8) W ok A0 x.f0.length x.f0 ∧ x.f1.length ≤ c1 ∧ Kd.F (Kd.int .u8) W ok A1 x.f1.length x.f1 := by
  obtain ⟨A0, c0, A1, c1, rfl, l0, _, l1, _⟩ := k44_open (Kd.FK_now h)
  exact ⟨A0, c0, A1, c1, rfl, l0, (fun W' hW => by obtain ⟨A0_, c0_, A1_, c1_, he, l0_, g0_, l1_, g1_⟩ := k44_open (h W' hW); injection (Option.some.inj (show some (Value.slice A0 x.f0.length c0) = some (Value.slice A0_ x.f0.length c0_) from congrArg (fun l => l[0]?) he)) with ha_ _ _; rw [ha_]; exact g0_), l1, (fun W' hW => by obtain ⟨A0_, c0_, A1_, c1_, he, l0_, g0_, l1_, g1_⟩ := k44_open (h W' hW); injection (Option.some.inj (show some (Value.slice A1 x.f1.length c1) = some (Value.slice A1_ x.f1.length c1_) from congrArg (fun l => l[1]?) he)) with ha_ _ _; rw [ha_]; exact g1_)⟩
theorem k44_mkF (W : World) (ok : Nat → Prop) (x : S44) {A0 : Option Addr} {c0 : Nat} (l0 : x.f0.length ≤ c0) (g0 : Kd.F (Kd.int .u8) W ok A0 x.f0.length x.f0) {A1 : Option Addr} {c1 : Nat} (l1 : x.f1.length ≤ c1) (g1 : Kd.F (Kd.int .u8) W ok A1 x.f1.length x.f1) : Kd.FK k44 W ok x [.slice A0 x.f0.length c0, .slice A1 x.f1.length c1] := fun W2 hW => k44_mk W2 x l0 (g0 W2 hW) l1 (g1 W2 hW)
def rd_T44 (xs : List S44) (i : Int) : S44 := xs.getD i.toNat z44
theorem at_T44 {w : World} {A : Option Addr} {n : Nat} {xs : List S44} (h : Kd.C k44 w A n xs) (i : Int) (h0 : 0 ≤ i) (h1 : i < n) : ∃ ad A0 c0 A1 c1, A = some ad ∧ w.cell? (ad.add (i.toNat * 2)) = some (.slice A0 (rd_T44 xs i).f0.length c0) ∧ w.cell? ⟨(ad.add (i.toNat * 2)).block, (ad.add (i.toNat * 2)).off + 1, none⟩ = some (.slice A1 (rd_T44 xs i).f1.length c1) ∧ (rd_T44 xs i).f0.length ≤ c0 ∧ (Kd.int .u8).C w A0 (rd_T44 xs i).f0.length (rd_T44 xs i).f0 ∧ (rd_T44 xs i).f1.length ≤ c1 ∧ (Kd.int .u8).C w A1 (rd_T44 xs i).f1.length (rd_T44 xs i).f1 := by
  obtain ⟨ad, c, e, _, hK, hc0⟩ := Kd.C_get h z44 i h0 h1
  have hc : ∀ j u, c[j]? = some u → w.cell? (ad.add (i.toNat * 2 + j)) = some u := hc0
  obtain ⟨A0, c0, A1, c1, rfl, l0, g0, l1, g1⟩ := k44_open hK
  exact ⟨ad, A0, c0, A1, c1, e, hc 0 _ rfl, by rw [← add_field _ _ 1 (by omega)]; exact hc 1 _ rfl, l0, g0, l1, g1⟩

/-! #### struct type 36 -/
structure S36 where
  f0 : (List Int)
  f1 : (List Int)
def z36 : S36 := ⟨([] : List Int), ([] : List Int)⟩
def k36 : Kd S36 := Kd.iso (Kd.pair (Kd.slice 5 (Kd.int .u8)) (Kd.slice 5 (Kd.int .u8))) (fun x : S36 => (x.f0, x.f1))
theorem k36_open {w : World} {x : S36} {cs : List Value} (h : k36.K w x cs) : ∃ A0 c0 A1 c1, cs = [.slice A0 x.f0.length c0, .slice A1 x.f1.length c1] ∧ x.f0.length ≤ c0 ∧ (Kd.int .u8).C w A0 x.f0.length x.f0 ∧ x.f1.length ≤ c1 ∧ (Kd.int .u8).C w A1 x.f1.length x.f1 := by
  obtain ⟨_, _, rfl, ⟨A0, c0, rfl, l0, g0⟩, ⟨A1, c1, rfl, l1, g1⟩⟩ := h
  exact ⟨A0, c0, A1, c1, rfl, l0, g0, l1, g1⟩
theorem k36_mk (w : World) (x : S36) {A0 : Option Addr} {c0 : Nat} (l0 : x.f0.length ≤ c0) (g0 : (Kd.int .u8).C w A0 x.f0.length x.f0) {A1 : Option Addr} {c1 : Nat} (l1 : x.f1.length ≤ c1) (g1 : (Kd.int .u8).C w A1 x.f1.length x.f1) : k36.K w x [.slice A0 x.f0.length c0, .slice A1 x.f1.length c1] := ⟨[.slice A0 x.f0.length c0], [.slice A1 x.f1.length c1], rfl, ⟨A0, c0, rfl, l0, g0⟩, ⟨A1, c1, rfl, l1, g1⟩⟩
theorem k36_openF {W : World} {ok : Nat → Prop} {x : S36} {cs : List Value} (h : Kd.FK k36 W ok x cs) : ∃ A0 c0 A1 c1, cs = [.slice A0 x.f0.length c0, .slice A1 x.f1.length c1] ∧ x.f0.length ≤ c0 ∧ Kd.F (Kd.int .u8) W ok A0 x.f0.length x.f0 ∧ x.f1.length ≤ c1 ∧ Kd.F (Kd.int .u8) W ok A1 x.f1.length x.f1 := by
  obtain ⟨A0, c0, A1, c1, rfl, l0, _, l1, _⟩ := k36_open (Kd.FK_now h)
  exact ⟨A0, c0, A1, c1, rfl, l0, (fun W' hW => by obtain ⟨A0_, c0_, A1_, c1_, he, l0_, g0_, l1_, g1_⟩ := k36_open (h W' hW); injection (Option.some.inj (show some (Value.slice A0 x.f0.length c0) = some (Value.slice A0_ x.f0.length c0_) from congrArg (fun l => l[0]?) he)) with ha_ _ _; rw [ha_]; exact g0_), l1, (fun W' hW => by obtain ⟨A0_, c0_, A1_, c1_, he, l0_, g0_, l1_, g1_⟩ := k36_open (h W' hW); injection (Option.some.inj (show some (Value.slice A1 x.f1.length c1) = some (Value.slice A1_ x.f1.length c1_) from congrArg (fun l => l[1]?) he)) with ha_ _ _; rw [ha_]; exact g1_)⟩
theorem k36_mkF (W : World) (ok : Nat → Prop) (x : S36) {A0 : Option Addr} {c0 : Nat} (l0 : x.f0.length ≤ c0) (g0 : Kd.F (Kd.int .u8) W ok A0 x.f0.length x.f0) {A1 : Option Addr} {c1 : Nat} (l1 : x.f1.length ≤ c1) (g1 : Kd.F (Kd.int .u8) W ok A1 x.f1.length x.f1) : Kd.FK k36 W ok x [.slice A0 x.f0.length c0, .slice A1 x.f1.length c1] := fun W2 hW => k36_mk W2 x l0 (g0 W2 hW) l1 (g1 W2 hW)
def rd_T36 (xs : List S36) (i : Int) : S36 := xs.getD i.toNat z36
theorem at_T36 {w : World} {A : Option Addr} {n : Nat} {xs : List S36} (h : Kd.C k36 w A n xs) (i : Int) (h0 : 0 ≤ i) (h1 : i < n) : ∃ ad A0 c0 A1 c1, A = some ad ∧ w.cell? (ad.add (i.toNat * 2)) = some (.slice A0 (rd_T36 xs i).f0.length c0) ∧ w.cell? ⟨(ad.add (i.toNat * 2)).block, (ad.add (i.toNat * 2)).off + 1, none⟩ = some (.slice A1 (rd_T36 xs i).f1.length c1) ∧ (rd_T36 xs i).f0.length ≤ c0 ∧ (Kd.int .u8).C w A0 (rd_T36 xs i).f0.length (rd_T36 xs i).f0 ∧ (rd_T36 xs i).f1.length ≤ c1 ∧ (Kd.int .u8).C w A1 (rd_T36 xs i).f1.length (rd_T36 xs i).f1 := by
  obtain ⟨ad, c, e, _, hK, hc0⟩ := Kd.C_get h z36 i h0 h1
  have hc : ∀ j u, c[j]? = some u → w.cell? (ad.add (i.toNat * 2 + j)) = some u := hc0
  obtain ⟨A0, c0, A1, c1, rfl, l0, g0, l1, g1⟩ := k36_open hK
  exact ⟨ad, A0, c0, A1, c1, e, hc 0 _ rfl, by rw [← add_field _ _ 1 (by omega)]; exact hc 1 _ rfl, l0, g0, l1, g1⟩

/-! #### struct type 104 -/
structure S104 where
  f0 : Int
  f1 : (List Int)
def z104 : S104 := ⟨(0 : Int), ([] : List Int)⟩
def k104 : Kd S104 := Kd.iso (Kd.pair (Kd.int .i64) (Kd.slice 5 (Kd.int .u8))) (fun x : S104 => (x.f0, x.f1))
theorem k104_open {w : World} {x : S104} {cs : List Value} (h : k104.K w x cs) : ∃ A1 c1, cs = [.int .i64 x.f0, .slice A1 x.f1.length c1] ∧ x.f1.length ≤ c1 ∧ (Kd.int .u8).C w A1 x.f1.length x.f1 := by
  obtain ⟨_, _, rfl, rfl, ⟨A1, c1, rfl, l1, g1⟩⟩ := h
  exact ⟨A1, c1, rfl, l1, g1⟩
theorem k104_mk (w : World) (x : S104) {A1 : Option Addr} {c1 : Nat} (l1 : x.f1.length ≤ c1) (g1 : (Kd.int .u8).C w A1 x.f1.length x.f1) : k104.K w x [.int .i64 x.f0, .slice A1 x.f1.length c1] := ⟨[.int .i64 x.f0], [.slice A1 x.f1.length c1], rfl, rfl, ⟨A1, c1, rfl, l1, g1⟩⟩
theorem k104_openF {W : World} {ok : Nat → Prop} {x : S104} {cs : List Value} (h : Kd.FK k104 W ok x cs) : ∃ A1 c1, cs = [.int .i64 x.f0, .slice A1 x.f1.length c1] ∧ x.f1.length ≤ c1 ∧ Kd.F (Kd.int .u8) W ok A1 x.f1.length x.f1 := by
  obtain ⟨A1, c1, rfl, l1, _⟩ := k104_open (Kd.FK_now h)
  exact ⟨A1, c1, rfl, l1, (fun W' hW => by obtain ⟨A1_, c1_, he, l1_, g1_⟩ := k104_open (h W' hW); injection (Option.some.inj (show some (Value.slice A1 x.f1.length c1) = some (Value.slice A1_ x.f1.length c1_) from congrArg (fun l => l[1]?) he)) with ha_ _ _; rw [ha_]; exact g1_)⟩
def rd_T104 (xs : List S104) (i : Int) : S104 := xs.getD i.toNat z104
theorem at_T104 {w : World} {A : Option Addr} {n : Nat} {xs : List S104} (h : Kd.C k104 w A n xs) (i : Int) (h0 : 0 ≤ i) (h1 : i < n) : ∃ ad A1 c1, A = some ad ∧ w.cell? (ad.add (i.toNat * 2)) = some (.int .i64 (rd_T104 xs i).f0) ∧ w.cell? ⟨(ad.add (i.toNat * 2)).block, (ad.add (i.toNat * 2)).off + 1, none⟩ = some (.slice A1 (rd_T104 xs i).f1.length c1) ∧ (rd_T104 xs i).f1.length ≤ c1 ∧ (Kd.int .u8).C w A1 (rd_T104 xs i).f1.length (rd_T104 xs i).f1 := by
  obtain ⟨ad, c, e, _, hK, hc0⟩ := Kd.C_get h z104 i h0 h1
  have hc : ∀ j u, c[j]? = some u → w.cell? (ad.add (i.toNat * 2 + j)) = some u := hc0
  obtain ⟨A1, c1, rfl, l1, g1⟩ := k104_open hK
  exact ⟨ad, A1, c1, e, hc 0 _ rfl, by rw [← add_field _ _ 1 (by omega)]; exact hc 1 _ rfl, l1, g1⟩

/-! #### struct type 121 -/
structure S121 where
  f0 : Bool
  f1 : Bool
  f2 : (List Int)
  f3 : (List Int)
  f4 : Int
def k121 : Kd S121 := Kd.iso (Kd.pair Kd.bool (Kd.pair Kd.bool (Kd.pair (Kd.slice 5 (Kd.int .u8)) (Kd.pair (Kd.slice 5 (Kd.int .u8)) (Kd.int .i64))))) (fun x : S121 => (x.f0, x.f1, x.f2, x.f3, x.f4))
theorem k121_open {w : World} {x : S121} {cs : List Value} (h : k121.K w x cs) : ∃ A2 c2 A3 c3, cs = [.bool x.f0, .bool x.f1, .slice A2 x.f2.length c2, .slice A3 x.f3.length c3, .int .i64 x.f4] ∧ x.f2.length ≤ c2 ∧ (Kd.int .u8).C w A2 x.f2.length x.f2 ∧ x.f3.length ≤ c3 ∧ (Kd.int .u8).C w A3 x.f3.length x.f3 := by
  obtain ⟨_, _, rfl, rfl, ⟨_, _, rfl, rfl, ⟨_, _, rfl, ⟨A2, c2, rfl, l2, g2⟩, ⟨_, _, rfl, ⟨A3, c3, rfl, l3, g3⟩, rfl⟩⟩⟩⟩ := h
  exact ⟨A2, c2, A3, c3, rfl, l2, g2, l3, g3⟩
theorem k121_mk (w : World) (x : S121) {A2 : Option Addr} {c2 : Nat} (l2 : x.f2.length ≤ c2) (g2 : (Kd.int .u8).C w A2 x.f2.length x.f2) {A3 : Option Addr} {c3 : Nat} (l3 : x.f3.length ≤ c3) (g3 : (Kd.int .u8).C w A3 x.f3.length x.f3) : k121.K w x [.bool x.f0, .bool x.f1, .slice A2 x.f2.length c2, .slice A3 x.f3.length c3, .int .i64 x.f4] := ⟨[.bool x.f0], [.bool x.f1, .slice A2 x.f2.length c2, .slice A3 x.f3.length c3, .int .i64 x.f4], rfl, rfl, ⟨[.bool x.f1], [.slice A2 x.f2.length c2, .slice A3 x.f3.length c3, .int .i64 x.f4], rfl, rfl, ⟨[.slice A2 x.f2.length c2], [.slice A3 x.f3.length c3, .int .i64 x.f4], rfl, ⟨A2, c2, rfl, l2, g2⟩, ⟨[.slice A3 x.f3.length c3], [.int .i64 x.f4], rfl, ⟨A3, c3, rfl, l3, g3⟩, rfl⟩⟩⟩⟩
theorem k121_openF {W : World} {ok : Nat → Prop} {x : S121} {cs : List Value} (h : Kd.FK k121 W ok x cs) : ∃ A2 c2 A3 c3, cs = [.bool x.f0, .bool x.f1, .slice A2 x.f2.length c2, .slice A3 x.f3.length c3, .int .i64 x.f4] ∧ x.f2.length ≤ c2 ∧ Kd.F (Kd.int .u8) W ok A2 x.f2.length x.f2 ∧ x.f3.length ≤ c3 ∧ Kd.F (Kd.int .u8) W ok A3 x.f3.length x.f3 := by
  obtain ⟨A2, c2, A3, c3, rfl, l2, _, l3, _⟩ := k121_open (Kd.FK_now h)
  exact ⟨A2, c2, A3, c3, rfl, l2, (fun W' hW => by obtain ⟨A2_, c2_, A3_, c3_, he, l2_, g2_, l3_, g3_⟩ := k121_open (h W' hW); injection (Option.some.inj (show some (Value.slice A2 x.f2.length c2) = some (Value.slice A2_ x.f2.length c2_) from congrArg (fun l => l[2]?) he)) with ha_ _ _; rw [ha_]; exact g2_), l3, (fun W' hW => by obtain ⟨A2_, c2_, A3_, c3_, he, l2_, g2_, l3_, g3_⟩ := k121_open (h W' hW); injection (Option.some.inj (show some (Value.slice A3 x.f3.length c3) = some (Value.slice A3_ x.f3.length c3_) from congrArg (fun l => l[3]?) he)) with ha_ _ _; rw [ha_]; exact g3_)⟩
theorem k121_mkF (W : World) (ok : Nat → Prop) (x : S121) {A2 : Option Addr} {c2 : Nat} (l2 : x.f2.length ≤ c2) (g2 : Kd.F (Kd.int .u8) W ok A2 x.f2.length x.f2) {A3 : Option Addr} {c3 : Nat} (l3 : x.f3.length ≤ c3) (g3 : Kd.F (Kd.int .u8) W ok A3 x.f3.length x.f3) : Kd.FK k121 W ok x [.bool x.f0, .bool x.f1, .slice A2 x.f2.length c2, .slice A3 x.f3.length c3, .int .i64 x.f4] := fun W2 hW => k121_mk W2 x l2 (g2 W2 hW) l3 (g3 W2 hW)
/-! #### struct type 77 -/
structure S77 where
  f0 : Int
  f1 : (List Int)
  f2 : (List Int)
end Go.Proofs.YtdkkkikcigjlhaaGreatDoor.PFnMemMap
