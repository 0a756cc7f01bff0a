/- Internal keys: the successor and the separator, at leveldb's door.  -/
import Derived.Test.YtpdibidfjhjoeaaDoorIkLawA
namespace Go.Proofs.YtpdibidfjhjoeaaDoor.Ik
open Go.RowKit Go.Proofs.YtpdibidfjhjoeaaDoorW.PrintWords Go.Proofs.YtpdibidfjhjoeaaDoorW.PrintMore Go.Proofs.YtpdibidfjhjoeaaDoor.Cmp Go.Proofs.YtpdibidfjhjoeaaDoor.Run Go.Proofs.YtpdibidfjhjoeaaDoor.Con Go.Proofs.YtpdibidfjhjoeaaDoor.Le Go.Proofs.YtpdibidfjhjoeaaDoor.Sep Go.Proofs.YtpdibidfjhjoeaaDoor.SepPlain
set_option linter.unusedVariables false

theorem own_nil (w : World) (base : Nat) : w.ownsRow base 5 1 (.slice none 0 0) ([] : List Int).length (nums .u8 []) := by
  refine ⟨?_, Or.inl ⟨rfl, rfl⟩⟩
  simp [nums]

set_option maxHeartbeats 400000 in
set_option maxRecDepth 100000 in
theorem uSuccessor_none {w : World} {p : Addr} (hp : w.cell? p = some dflt) {B : Option Addr} {cb : Nat} {lb : List Int}
    (hb : Kd.C (Kd.int .u8) w B lb.length lb) (hcb : lb.length ≤ cb) (bb : Byt lb) (h : succI lb = none) :
    Calls Tryd.prog 52 #[.pointer (some p), .slice none 0 0, .slice B lb.length cb] w fun e w' => e = .returned (.slice none 0 0) ∧ Below w.heap.size w w' := by
  have hS := succ_none (dv := .slice none 0 0) hb hcb bb h
  clear hb hcb bb h
  unfold dflt at hp
  go_enter Tryd.func52, Tryd.ntmps52
  go_wp2_with (first | (go_at_call 25; refine hS.mono ?_; rintro e w1 ⟨rfl, hb1⟩))
  go_ret
  exact ⟨rfl, hb1⟩

set_option maxHeartbeats 400000 in
set_option maxRecDepth 100000 in
theorem uSuccessor_some {w : World} (base : Nat) (hbase : base ≤ w.heap.size) {p : Addr} (hp : w.cell? p = some dflt) {B : Option Addr} {cb : Nat} {lb s : List Int}
    (hb : Kd.C (Kd.int .u8) w B lb.length lb) (hcb : lb.length ≤ cb) (bb : Byt lb) (h : succI lb = some s) (hl : lb.length ≤ 4294967296) :
    Calls Tryd.prog 52 #[.pointer (some p), .slice none 0 0, .slice B lb.length cb] w (SomeRow base w s) := by
  have hS := succ_some (ds := []) base (own_nil w base) hbase hb hcb bb h (by simp; omega)
  rw [List.nil_append] at hS
  clear hb hcb bb h
  unfold dflt at hp
  go_enter Tryd.func52, Tryd.ntmps52
  go_wp2_with (first | (go_at_call 25; refine hS.mono ?_; rintro e w1 ⟨v1, rfl, ho1, hb1⟩))
  go_ret
  exact ⟨v1, rfl, ho1, hb1⟩

set_option maxHeartbeats 400000 in
set_option maxRecDepth 100000 in
theorem uSeparator_none {w : World} {p : Addr} (hp : w.cell? p = some dflt) {A : Option Addr} {ca : Nat} {la : List Int} {B : Option Addr} {cb : Nat} {lb : List Int}
    (ha : Kd.C (Kd.int .u8) w A la.length la) (hb : Kd.C (Kd.int .u8) w B lb.length lb) (hca : la.length ≤ ca) (ba : Byt la) (bb : Byt lb) (h : sepI la lb = none) :
    Calls Tryd.prog 53 #[.pointer (some p), .slice none 0 0, .slice A la.length ca, .slice B lb.length cb] w fun e w' => e = .returned (.slice none 0 0) ∧ Below w.heap.size w w' := by
  have hS := sep_none (dv := .slice none 0 0) (cb := cb) ha hb hca ba bb h
  clear ha hb hca ba bb h
  unfold dflt at hp
  go_enter Tryd.func53, Tryd.ntmps53
  go_wp2_with (first | (go_at_call 26; refine hS.mono ?_; rintro e w1 ⟨rfl, hb1⟩))
  go_ret
  exact ⟨rfl, hb1⟩

set_option maxHeartbeats 400000 in
set_option maxRecDepth 100000 in
theorem uSeparator_some {w : World} (base : Nat) (hbase : base ≤ w.heap.size) {p : Addr} (hp : w.cell? p = some dflt) {A : Option Addr} {ca : Nat} {la : List Int} {B : Option Addr} {cb : Nat} {lb s : List Int}
    (ha : Kd.C (Kd.int .u8) w A la.length la) (hb : Kd.C (Kd.int .u8) w B lb.length lb) (hca : la.length ≤ ca) (ba : Byt la) (bb : Byt lb) (h : sepI la lb = some s) (hl : la.length ≤ 4294967296) :
    Calls Tryd.prog 53 #[.pointer (some p), .slice none 0 0, .slice A la.length ca, .slice B lb.length cb] w (SomeRow base w s) := by
  have hS := sep_some (ds := []) (cb := cb) base (own_nil w base) hbase ha hb hca ba bb h (by simp; omega)
  rw [List.nil_append] at hS
  clear ha hb hca ba bb h
  unfold dflt at hp
  go_enter Tryd.func53, Tryd.ntmps53
  go_wp2_with (first | (go_at_call 26; refine hS.mono ?_; rintro e w1 ⟨v1, rfl, ho1, hb1⟩))
  go_ret
  exact ⟨v1, rfl, ho1, hb1⟩

end Go.Proofs.YtpdibidfjhjoeaaDoor.Ik
