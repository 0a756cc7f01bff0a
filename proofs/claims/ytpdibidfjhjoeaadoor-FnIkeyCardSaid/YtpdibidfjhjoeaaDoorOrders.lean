/- FnOrders: each order is one. The walk of the law out of the contracts of its callees. -/
import Derived.Test.YtpdibidfjhjoeaaDoorCon
import Derived.Test.YtpdibidfjhjoeaaDoorOrdersPure
import Derived.Deep.RegionHeld3
import Derived.Lib.Hide
namespace Go.Proofs.YtpdibidfjhjoeaaDoor.Orders
open Go.RowKit Go.Proofs.YtpdibidfjhjoeaaDoorW.PrintWords Go.Proofs.YtpdibidfjhjoeaaDoor.Cmp Go.Proofs.YtpdibidfjhjoeaaDoor.Run Go.Proofs.YtpdibidfjhjoeaaDoor.Con Go.Proofs.YtpdibidfjhjoeaaDoor.PFnOrders

/-- same, as a Bool of its own -/
def same (l m : List Int) : Bool := decide (l = m)
def less (o : Int) (l m : List Int) : Bool := decide (cmpO o l m < 0)

theorem Bytes_same {w : World} {A B : Option Addr} {n c m d : Nat} {l k : List Int} (h : Kd.C (Kd.int .u8) w A n l) (hc : n ≤ c) (g : Kd.C (Kd.int .u8) w B m k) (hd : m ≤ d) :
    Calls Tryd.prog 9 #[.slice A n c, .slice B m d] w fun e w' => e = .returned (.bool (same l k)) ∧ Below w.heap.size w w' := by
  obtain rfl := Kd.C_len h
  obtain rfl := Kd.C_len g
  refine (spec_Bytes.calls (2 * l.length + 2 * k.length + 2) A c l B d k _ w h hc g hd (OrdersPure.bytes l k (Kd.C_max h) (Kd.C_max g) _ (by omega) (by omega))).mono ?_
  rintro e w' ⟨rfl, hw⟩
  exact ⟨rfl, hw.below⟩

theorem OrderLess_less {w : World} {A B : Option Addr} {n c m d : Nat} {l k : List Int} (o : Int) (r : Bool) (hr : less o l k = r) (h : Kd.C (Kd.int .u8) w A n l) (hc : n ≤ c) (g : Kd.C (Kd.int .u8) w B m k) (hd : m ≤ d) :
    Calls Tryd.prog 14 #[.int .i64 o, .slice A n c, .slice B m d] w fun e w' => e = .returned (.bool r) ∧ Below w.heap.size w w' := by
  subst hr
  obtain rfl := Kd.C_len h
  obtain rfl := Kd.C_len g
  refine (spec_OrderLess.calls (2 * l.length + 2 * k.length + 3) o A c l B d k _ w h hc g hd (OrdersPure.orderLess o l k (Kd.C_max h) (Kd.C_max g) _ (by omega) (by omega))).mono ?_
  rintro e w' ⟨rfl, hw⟩
  exact ⟨rfl, hw.below⟩

theorem sign_calls (x : Int) (h : x = -1 ∨ x = 0 ∨ x = 1) (w : World) :
    Calls Tryd.prog 27 #[.int .i64 x] w fun e w' => e = .returned (.int .i64 x) ∧ Below w.heap.size w w' :=
  impl_sign.calls x x w (by unfold impl_sign.f mx mn; congr 1; rcases h with h | h | h <;> subst h <;> decide)

theorem ordV_one : ordV 1 = .iface 67 (.agg #[]) := rfl
theorem ordV_two : ordV 2 = .iface 68 (.agg #[]) := rfl
theorem ordV_any {o : Int} (a : ¬ o = 1) (b : ¬ o = 2) : ordV o = .iface 51 (.agg #[]) := by unfold ordV; rw [if_neg a, if_neg b]

set_option maxHeartbeats 800000 in
theorem Compare_calls (o : Int) {w : World} {A B : Option Addr} {n c m d : Nat} {l k : List Int} (h : Kd.C (Kd.int .u8) w A n l) (g : Kd.C (Kd.int .u8) w B m k) (hl : Byt l) (hk : Byt k) :
    Calls Tryd.prog 13 #[.int .i64 o, .slice A n c, .slice B m d] w fun e w' => e = .returned (.int .i64 (cmpO o l k)) ∧ Below w.heap.size w w' := by
  have H1 := Lib.hid h
  have H2 := Lib.hid g
  have h3 := Lib.hid (cmpO_three o l k)
  clear h g
  by_cases a : o = 1
  · subst a
    go_enter Tryd.func13, Tryd.ntmps13
    go_wp2_with (first | (go_at_call 28; refine (orderOf_calls _ _).mono ?_; rintro e w' ⟨rfl, rfl⟩; rw [ordV_one]) | (go_at_call 75; refine (falling_Compare H1.out H2.out hl hk).mono ?_; rintro e w1 ⟨rfl, hb1⟩) | (go_at_call 27; refine (sign_calls _ h3.out _).mono ?_; rintro e w2 ⟨rfl, hb2⟩))
    go_ret
    exact ⟨rfl, below_then hb1 hb1.size hb2⟩
  · by_cases b : o = 2
    · subst b
      clear a
      go_enter Tryd.func13, Tryd.ntmps13
      go_wp2_with (first | (go_at_call 28; refine (orderOf_calls _ _).mono ?_; rintro e w' ⟨rfl, rfl⟩; rw [ordV_two]) | (go_at_call 79; refine (shorter_Compare H1.out H2.out hl hk).mono ?_; rintro e w1 ⟨rfl, hb1⟩) | (go_at_call 27; refine (sign_calls _ h3.out _).mono ?_; rintro e w2 ⟨rfl, hb2⟩))
      go_ret
      exact ⟨rfl, below_then hb1 hb1.size hb2⟩
    · have hv := Lib.hid (ordV_any a b)
      have hc : Hid (cmpO o l k = cmpI l k) := by unfold cmpO; rw [if_neg a, if_neg b]; rfl
      clear a b
      have h4 : Hid (cmpI l k = -1 ∨ cmpI l k = 0 ∨ cmpI l k = 1) := cmpI_three l k
      go_enter Tryd.func13, Tryd.ntmps13
      go_wp2_with (first | (go_at_call 28; refine (orderOf_calls _ _).mono ?_; rintro e w' ⟨rfl, rfl⟩; rw [hv.out]) | (go_at_call 71; refine (bytesComparer_Compare H1.out H2.out hl hk).mono ?_; rintro e w1 ⟨rfl, hb1⟩) | (go_at_call 27; refine (sign_calls _ h4.out _).mono ?_; rintro e w2 ⟨rfl, hb2⟩))
      go_ret
      exact ⟨ret_int hc.out.symm, below_then hb1 hb1.size hb2⟩

set_option maxHeartbeats 400000 in
theorem closure_calls (o : Int) (r : Bool) {l k : List Int} (hr : less o l k = r) {w : World} {a : Addr} (ho : w.cell? a = some (.int .i64 o)) {A B : Option Addr} {n c m d : Nat} (h : Kd.C (Kd.int .u8) w A n l) (g : Kd.C (Kd.int .u8) w B m k) (hl : Byt l) (hk : Byt k) :
    Calls Tryd.prog 12 #[.slice A n c, .slice B m d, .pointer (some a)] w fun e w' => e = .returned (.bool r) ∧ Below w.heap.size w w' := by
  subst hr
  have H1 := Lib.hid h
  have H2 := Lib.hid g
  clear h g
  go_enter Tryd.func12, Tryd.ntmps12
  go_wp2_with (go_at_call 13; refine (Compare_calls o H1.out H2.out hl hk).mono ?_; rintro e w1 ⟨rfl, hb1⟩)
  go_ret
  exact ⟨rfl, hb1⟩

end Go.Proofs.YtpdibidfjhjoeaaDoor.Orders
