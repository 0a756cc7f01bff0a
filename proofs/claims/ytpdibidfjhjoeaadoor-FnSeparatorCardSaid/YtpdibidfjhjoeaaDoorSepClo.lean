/- FnSeparator's closure, and the reference's Before and Bytes as contracts. -/
import Derived.Test.YtpdibidfjhjoeaaDoorSepImpl
import Derived.Test.YtpdibidfjhjoeaaDoorOrdersPure
import Derived.Lib.QuietBelow
namespace Go.Proofs.YtpdibidfjhjoeaaDoor.Sep
open Go.RowKit Go.Sort Go.Proofs.YtpdibidfjhjoeaaDoorW.PrintWords Go.Proofs.YtpdibidfjhjoeaaDoor.Cmp Go.Proofs.YtpdibidfjhjoeaaDoor.Run Go.Proofs.YtpdibidfjhjoeaaDoor.Con Go.Proofs.YtpdibidfjhjoeaaDoor.SepPlain Go.Proofs.YtpdibidfjhjoeaaDoor.PFnOrders
set_option linter.unusedVariables false

theorem Before_r {w : World} {A B : Option Addr} {n c m d : Nat} {l k : List Int} (r : Bool) (hr : decide (cmpI l k < 0) = r) (h : Kd.C (Kd.int .u8) w A n l) (hc : n ≤ c) (g : Kd.C (Kd.int .u8) w B m k) (hd : m ≤ d) :
    Calls Tryd.prog 7 #[.slice A n c, .slice B m d] w fun e w' => e = .returned (.bool r) ∧ Below w.heap.size w w' := by
  subst hr
  obtain rfl := Kd.C_len h
  obtain rfl := Kd.C_len g
  refine (spec_Before.calls (2 * l.length + 2) A c l B d k _ w h hc g hd (OrdersPure.before l k (Kd.C_max h) _ (by omega))).mono ?_
  rintro e w' ⟨rfl, hw⟩
  exact ⟨rfl, hw.below⟩

theorem Bytes_r {w : World} {A B : Option Addr} {n c m d : Nat} {l k : List Int} (r : Bool) (hr : decide (l = k) = r) (h : Kd.C (Kd.int .u8) w A n l) (hc : n ≤ c) (g : Kd.C (Kd.int .u8) w B m k) (hd : m ≤ d) :
    Calls Tryd.prog 9 #[.slice A n c, .slice B m d] w fun e w' => e = .returned (.bool r) ∧ Below w.heap.size w w' := by
  subst hr
  obtain rfl := Kd.C_len h
  obtain rfl := Kd.C_len g
  refine (spec_Bytes.calls (2 * l.length + 2 * k.length + 2) A c l B d k _ w h hc g hd (OrdersPure.bytes l k (Kd.C_max h) (Kd.C_max g) _ (by omega) (by omega))).mono ?_
  rintro e w' ⟨rfl, hw⟩
  exact ⟨rfl, hw.below⟩

theorem C_pre {w : World} {X : Option Addr} {ds s : List Int} (h : Kd.C (Kd.int .u8) w X (ds ++ s).length (ds ++ s)) : Kd.C (Kd.int .u8) w X ds.length ds := by
  have := Kd.C_take h (m := ds.length) (by simp)
  rwa [List.take_left' rfl] at this

set_option maxHeartbeats 800000 in
theorem ahead_true {w : World} {p : Addr} {D : Option Addr} {cd : Nat} {ds s : List Int} {X : Option Addr} {cx n : Nat} (hp : w.cell? p = some (.slice D ds.length cd)) (hd : Kd.C (Kd.int .u8) w D ds.length ds) (hcd : ds.length ≤ cd)
    (hx : Kd.C (Kd.int .u8) w X n (ds ++ s)) (hcx : n ≤ cx) :
    Calls Tryd.prog 8 #[.slice X n cx, .pointer (some p)] w fun e w' => e = .returned (.bool true) ∧ Below w.heap.size w w' := by
  have en := Kd.C_len hx
  have hn : ds.length ≤ n := by rw [← en]; simp
  have HD := Lib.hid hd
  have HX : Hid (Kd.C (Kd.int .u8) w X ds.length ds) := by rw [← en] at hx; exact C_pre hx
  clear hd hx en
  have hd1 : decide ((ds.length : Int) ≤ (n : Int)) = true := decide_eq_true (by omega)
  have KC := cell_regrown hp
  have HW : ∀ d os, Hid (Below w.heap.size w (grow (redrawn w d) os)) := fun d os => below_regrown w d os
  go_enter Tryd.func8, Tryd.ntmps8
  go_wp2
  refine wp_region_quiet_below (by kernel_rfl) (by kernel_rfl) ?_
  repeat (go_big_quiet_step (first
      | (go_at_call 9; exact Calls.regrown_of (Bytes_r true (decide_eq_true rfl) (Kd.C_below HX.out (HW _ _).out) (by omega) (Kd.C_below HD.out (HW _ _).out) hcd))))
  refine wpQuiet_nil ?_
  intro _ hw'
  obtain ⟨⟨dq, osq⟩, hw''⟩ := hw'
  subst hw''
  go_wp2
  go_ret
  exact ⟨rfl, (HW _ _).out⟩

end Go.Proofs.YtpdibidfjhjoeaaDoor.Sep
