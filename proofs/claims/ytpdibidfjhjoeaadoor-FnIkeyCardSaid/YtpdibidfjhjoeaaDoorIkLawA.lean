/- Internal keys: told, at impl's door. -/
import Derived.Test.YtpdibidfjhjoeaaDoorIkParse
namespace Go.Proofs.YtpdibidfjhjoeaaDoor.Ik
open Go.RowKit Go.Proofs.YtpdibidfjhjoeaaDoorW.PrintWords Go.Proofs.YtpdibidfjhjoeaaDoorW.PrintMore Go.Proofs.YtpdibidfjhjoeaaDoor.Cmp Go.Proofs.YtpdibidfjhjoeaaDoor.Run Go.Proofs.YtpdibidfjhjoeaaDoor.Con Go.Proofs.YtpdibidfjhjoeaaDoor.Le Go.Proofs.YtpdibidfjhjoeaaDoor.Sep
set_option linter.unusedVariables false

/-- an internal key's parts are told; nothing else has changed -/
def Parts (w : World) (key : List Int) (sq kt : Int) (e : Ending) (w' : World) : Prop :=
  ∃ A c, e = .returned (.tuple #[.slice A key.length c, .int .u64 sq, .int .i64 kt, .bool true]) ∧ Kd.C (Kd.int .u8) w' A key.length key ∧ key.length ≤ c ∧ Below w.heap.size w w'

set_option maxHeartbeats 400000 in
set_option maxRecDepth 100000 in
theorem IkeyParse_calls {w : World} {A : Option Addr} {c : Nat} {l : List Int} {sq kt : Int} (h : Kd.C (Kd.int .u8) w A l.length l) (hb : Byt l) (h8 : 8 ≤ l.length) (hl : l.length ≤ 4294967296)
    (hv : leN (l.drop (l.length - 8)) = sq * 256 + kt) (s0 : 0 ≤ sq) (s1 : sq ≤ 72057594037927935) (k0 : 0 ≤ kt) (k1 : kt ≤ 1) :
    Calls Tryd.prog 18 #[.slice A l.length c] w (Parts w (l.take (l.length - 8)) sq kt) := by
  have HA := Lib.hid (Kd.C_alloc h (.cells #[] 5))
  have ho0 : Hid ((w.alloc (.cells #[] 5)).ownsRow w.heap.size 5 1 (.slice (some ⟨w.heap.size, 0, none⟩) 0 0) ([] : List Int).length (nums .u8 [])) := own_lit w w.heap.size 5 .u8 [] (Nat.le_refl _) (by decide)
  have hD := fun (w1 : World) (X : Option Addr) (cx : Nat) (hX : Kd.C (Kd.int .u8) w1 X l.length l) (hc : l.length ≤ cx) => DoorParse_calls hX hb h8 hc hv s0 s1 k0 k1
  have hT := fun (w1 : World) (X : Option Addr) (hX : Kd.C (Kd.int .u8) w1 X l.length l) => C_head hX (l.length - 8) (by omega)
  have et : (l.take (l.length - 8)).length = l.length - 8 := by simp
  have hmn : Hid (l.length - 8 ≤ l.length) := Nat.sub_le _ _
  unfold Parts
  rw [et]
  clear et h hv
  generalize l.take (l.length - 8) = key at *
  generalize l.length - 8 = m at *
  go_enter Tryd.func18, Tryd.ntmps18
  go_wp2_with (at_builtin; go_loud (refine print_append_row w.heap.size rfl (.tmp 9) (.tmp 10) 22 5 .u8 1 rfl Tryd.underlying22 info_u8 (by decide) _ [] l _ _ _ rfl rfl ho0.out (C_ints HA.out) (below_alloc (Below.refl _ _) _) (by simp) (by simp; omega) ?_); intro v1 w1 ho1 hb1 hx1 hx2; clear hx1 hx2)
  obtain ⟨A1, c1, rfl, hr1, hc1⟩ := own_C ho1
  rw [List.nil_append] at hr1 hc1 ⊢
  clear ho1
  go_wp2_with fail
  refine (hD w1 A1 c1 hr1 hc1).mono ?_
  rintro e w2 ⟨rfl, hb2⟩
  have HR := Lib.hid hr1
  have hmc : m ≤ c1 := Nat.le_trans hmn.out hc1
  go_wp2
  (try simp only [Exit.inBlock, Exit.then])
  refine bodyPost_ret (results_tmp4 rfl _ _ _) rfl ?_
  exact ⟨A1, c1, rfl, hT w2 A1 (Kd.C_below HR.out hb2), hmc, below_then hb1 hb1.size hb2⟩

end Go.Proofs.YtpdibidfjhjoeaaDoor.Ik
