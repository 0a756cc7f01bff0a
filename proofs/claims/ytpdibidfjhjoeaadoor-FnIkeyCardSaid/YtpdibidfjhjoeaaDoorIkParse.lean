/- Internal keys: told. -/
import Derived.Test.YtpdibidfjhjoeaaDoorIkTold
namespace Go.Proofs.YtpdibidfjhjoeaaDoor.Ik
open Go.RowKit Go.Proofs.YtpdibidfjhjoeaaDoorW.PrintWords Go.Proofs.YtpdibidfjhjoeaaDoorW.PrintMore Go.Proofs.YtpdibidfjhjoeaaDoor.Cmp Go.Proofs.YtpdibidfjhjoeaaDoor.Run Go.Proofs.YtpdibidfjhjoeaaDoor.Con Go.Proofs.YtpdibidfjhjoeaaDoor.Le Go.Proofs.YtpdibidfjhjoeaaDoor.Sep
set_option linter.unusedVariables false

theorem and_low (v : Int) (h0 : 0 ≤ v) (h1 : v < 18446744073709551616) : Go.bits .and .u64 v 255 = v % 256 := by
  rw [u64_and v 255 h0 h1 (by decide) (by decide)]
  have := Nat.and_two_pow_sub_one_eq_mod v.toNat 8
  simp at this
  have e : (255 : Int).toNat = 255 := rfl
  rw [e, this]
  omega

theorem results_tmp4 {fn : Func} {t u v x : Tmp} (h : fn.results = #[.tmp t, .tmp u, .tmp v, .tmp x]) (tmps : Array Value) (P : Program) (w : World) :
    (results fn tmps).run P w = .ok (.tuple #[tmps.getD t undef, tmps.getD u undef, tmps.getD v undef, tmps.getD x undef]) w := by
  simp [results, h]


set_option maxHeartbeats 200000 in
set_option maxRecDepth 100000 in
theorem parse_calls {w : World} {A : Option Addr} {n c : Nat} {l : List Int} {sq kt : Int} (h : Kd.C (Kd.int .u8) w A n l) (hb : Byt l) (h8 : 8 ≤ n) (hc : n ≤ c)
    (hv : leN (l.drop (n - 8)) = sq * 256 + kt) (s0 : 0 ≤ sq) (s1 : sq ≤ 72057594037927935) (k0 : 0 ≤ kt) (k1 : kt ≤ 1) :
    Calls Tryd.prog 39 #[.slice A n c] w fun e w' => e = .returned (.tuple #[.slice A (n - 8) c, .int .u64 sq, .int .u64 kt, .nilIface]) ∧ Below w.heap.size w w' := by
  obtain ⟨a, rfl⟩ := C_some h (by omega)
  have hm := Kd.C_max h
  obtain ⟨m, em⟩ : ∃ m, m = n - 8 := ⟨_, rfl⟩
  obtain ⟨A', hcut, hcs⟩ := cut_of Tryd.underlying22 (X := some a) (n := n) (c := c) (m := m) (by omega)
  have e8 : wrap64 ((n : Int) - 8) = (m : Int) := by unfold wrap64; omega
  have e8' : IntKind.i64.wrap ((n : Int) - 8) = (m : Int) := by rw [IntWalk.i64_in _ (by omega)]; omega
  have en : n - m = 8 := by omega
  have hmc : m ≤ c := by omega
  rw [en] at hcut hcs
  have HC := Lib.hid (hcs w l hc h)
  have HB := Lib.hid (byt_drop hb m)
  rw [← em] at hv
  have HV := Lib.hid hv
  rw [← em]
  obtain ⟨v, ev⟩ : ∃ v, v = sq * 256 + kt := ⟨_, rfl⟩
  rw [← ev] at hv
  have hU : Calls Tryd.prog 47 #[.agg #[], .slice A' 8 (c - m)] w.drew fun e w' => e = .returned (.int .u64 v) ∧ Below w.drew.heap.size w.drew w' := by
    have z := Uint64_calls (c := c - m) (Kd.C_below HC.out (Below.refl w.heap.size w).drew) HB.out
    rwa [hv] at z
  have d1 : v / 256 = sq := by omega
  have d2 : v % 256 = kt := by omega
  have v0 : 0 ≤ v := by omega
  have v1 : v < 18446744073709551616 := by omega
  have EV := Lib.hid ev
  have hand : Go.bits .and .u64 v 255 = kt := (and_low v v0 v1).trans d2
  clear HV hcs h hb hv HC HB em en ev d2
  go_enter Tryd.func39, Tryd.ntmps39
  go_wp2_with fail
  go_region_held3 (fun _ => True) (trivial)
    (first
      | (go_at_call 47; refine hU.mono ?_; rintro e w1 ⟨rfl, hb1⟩))
  go_wp2
  (try simp only [Exit.inBlock, Exit.then])
  refine bodyPost_ret (results_tmp4 rfl _ _ _) rfl ?_
  exact ⟨rfl, below_then (Below.refl w.heap.size w).drew (Below.refl w.heap.size w).drew.size hb1⟩

set_option maxHeartbeats 400000 in
set_option maxRecDepth 100000 in
theorem DoorParse_calls {w : World} {A : Option Addr} {n c : Nat} {l : List Int} {sq kt : Int} (h : Kd.C (Kd.int .u8) w A n l) (hb : Byt l) (h8 : 8 ≤ n) (hc : n ≤ c)
    (hv : leN (l.drop (n - 8)) = sq * 256 + kt) (s0 : 0 ≤ sq) (s1 : sq ≤ 72057594037927935) (k0 : 0 ≤ kt) (k1 : kt ≤ 1) :
    Calls Tryd.prog 32 #[.slice A n c] w fun e w' => e = .returned (.tuple #[.slice A (n - 8) c, .int .u64 sq, .int .i64 kt, .nilIface]) ∧ Below w.heap.size w w' := by
  have hP := parse_calls h hb h8 hc hv s0 s1 k0 k1
  generalize n - 8 = m at *
  clear h hb hv
  go_enter Tryd.func32, Tryd.ntmps32
  go_wp2_with fail
  refine hP.mono ?_
  rintro e w1 ⟨rfl, hb1⟩
  go_wp2
  (try simp only [Exit.inBlock, Exit.then])
  refine bodyPost_ret (results_tmp4 rfl _ _ _) rfl ?_
  exact ⟨rfl, hb1⟩

end Go.Proofs.YtpdibidfjhjoeaaDoor.Ik
