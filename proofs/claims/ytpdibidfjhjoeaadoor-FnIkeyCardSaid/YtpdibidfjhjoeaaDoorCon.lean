/- The comparers' own contracts. Written for the seat YtpdibidfjhjoeaaDoor. -/
import Derived.Test.YtpdibidfjhjoeaaDoorProg
import Derived.Test.YtpdibidfjhjoeaaDoorRun
import Derived.WalkKit
import Derived.WalkSpells
import Derived.WalkLawsBesides
import Derived.KernelRfl
import Derived.Deep.QuietTactic
import Derived.BigQuiet
import Derived.Handy
import Derived.Lib.Hide
namespace Go.Proofs.YtpdibidfjhjoeaaDoor.Con
open Go.RowKit Go.Proofs.YtpdibidfjhjoeaaDoorW.PrintWords Go.Proofs.YtpdibidfjhjoeaaDoor.Cmp Go.Proofs.YtpdibidfjhjoeaaDoor.Run

theorem call_compare {w : World} {A B : Option Addr} {n c m d : Nat} {l k : List Int} (h : Kd.C (Kd.int .u8) w A n l) (g : Kd.C (Kd.int .u8) w B m k) (hl : Byt l) (hk : Byt k) :
    (callFunc 74 #[.slice A n c, .slice B m d]).run Tryd.prog w = .ok (.value (.int .i64 (cmpI l k))) w := by
  rw [run_callFunc_extern Tryd.func74 (by kernel_rfl) (by kernel_rfl) (by kernel_rfl) (e := Extern.BytealgCompare.compare) (by kernel_rfl), run_compare h g hl hk]
  rfl

set_option maxHeartbeats 400000 in
theorem bytes_Compare {w : World} {A B : Option Addr} {n c m d : Nat} {l k : List Int} (h : Kd.C (Kd.int .u8) w A n l) (g : Kd.C (Kd.int .u8) w B m k) (hl : Byt l) (hk : Byt k) :
    Calls Tryd.prog 73 #[.slice A n c, .slice B m d] w fun e w' => e = .returned (.int .i64 (cmpI l k)) ∧ w = w' := by
  have hc := call_compare (c := c) (d := d) h g hl hk
  clear h g hl hk
  go_enter Tryd.func73, Tryd.ntmps73
  go_wp2
  go_ret
  exact ⟨rfl, rfl⟩


theorem ret_int {k : IntKind} {a b : Int} (h : a = b) : Ending.returned (.int k a) = .returned (.int k b) := by rw [h]
theorem ret_v {a b : Value} (h : a = b) : Ending.returned a = .returned b := by rw [h]

/-- The comparer of an order, as an interface value. -/
def ordV (o : Int) : Value := if o = 1 then .iface 67 (.agg #[]) else if o = 2 then .iface 68 (.agg #[]) else .iface 51 (.agg #[])

set_option maxHeartbeats 400000 in
theorem bytesComparer_Compare {w : World} {A B : Option Addr} {n c m d : Nat} {l k : List Int} (h : Kd.C (Kd.int .u8) w A n l) (g : Kd.C (Kd.int .u8) w B m k) (hl : Byt l) (hk : Byt k) :
    Calls Tryd.prog 71 #[.agg #[], .slice A n c, .slice B m d] w fun e w' => e = .returned (.int .i64 (cmpI l k)) ∧ Below w.heap.size w w' := by
  have H1 := Lib.hid h
  have H2 := Lib.hid g
  clear h g
  go_enter Tryd.func71, Tryd.ntmps71
  go_wp2_with (go_at_call 73; refine (bytes_Compare (Kd.C_alloc H1.out _) (Kd.C_alloc H2.out _) hl hk).mono ?_; rintro e w' ⟨rfl, rfl⟩)
  go_ret
  exact ⟨rfl, by go_grown⟩

set_option maxHeartbeats 400000 in
theorem falling_Compare {w : World} {A B : Option Addr} {n c m d : Nat} {l k : List Int} (h : Kd.C (Kd.int .u8) w A n l) (g : Kd.C (Kd.int .u8) w B m k) (hl : Byt l) (hk : Byt k) :
    Calls Tryd.prog 75 #[.agg #[], .slice A n c, .slice B m d] w fun e w' => e = .returned (.int .i64 (cmpO 1 l k)) ∧ Below w.heap.size w w' := by
  have H1 := Lib.hid h
  have H2 := Lib.hid g
  have en := Kd.C_len h
  have em := Kd.C_len g
  have hx : Hid (cmpO 1 l k = if l.length = 0 ∨ k.length = 0 then cmpI l k else cmpI k l) := by unfold cmpO; rw [if_pos rfl]; rfl
  clear h g
  rw [en, em] at hx
  clear en em
  by_cases z : n = 0
  · have z1 : ((n : Int) == 0) = true := by rw [beq_iff_eq]; omega
    have hz := Lib.hid z
    clear z
    go_enter Tryd.func75, Tryd.ntmps75
    go_wp2_with (go_at_call 73; refine (bytes_Compare (Kd.C_alloc H1.out _) (Kd.C_alloc H2.out _) hl hk).mono ?_; rintro e w' ⟨rfl, rfl⟩)
    go_ret
    exact ⟨ret_int (by rw [hx.out, if_pos (Or.inl hz.out)]), by go_grown⟩
  · have z1 : ((n : Int) == 0) = false := by rw [beq_eq_false_iff_ne]; omega
    by_cases y : m = 0
    · have y1 : ((m : Int) == 0) = true := by rw [beq_iff_eq]; omega
      have hy := Lib.hid y
      clear y
      go_enter Tryd.func75, Tryd.ntmps75
      go_wp2_with (go_at_call 73; refine (bytes_Compare (Kd.C_alloc H1.out _) (Kd.C_alloc H2.out _) hl hk).mono ?_; rintro e w' ⟨rfl, rfl⟩)
      go_ret
      exact ⟨ret_int (by rw [hx.out, if_pos (Or.inr hy.out)]), by go_grown⟩
    · have y1 : ((m : Int) == 0) = false := by rw [beq_eq_false_iff_ne]; omega
      go_enter Tryd.func75, Tryd.ntmps75
      go_wp2_with (go_at_call 73; refine (bytes_Compare (Kd.C_alloc H2.out _) (Kd.C_alloc H1.out _) hk hl).mono ?_; rintro e w' ⟨rfl, rfl⟩)
      go_ret
      exact ⟨ret_int (by rw [hx.out, if_neg (by omega)]), by go_grown⟩

set_option maxHeartbeats 400000 in
theorem shorter_Compare {w : World} {A B : Option Addr} {n c m d : Nat} {l k : List Int} (h : Kd.C (Kd.int .u8) w A n l) (g : Kd.C (Kd.int .u8) w B m k) (hl : Byt l) (hk : Byt k) :
    Calls Tryd.prog 79 #[.agg #[], .slice A n c, .slice B m d] w fun e w' => e = .returned (.int .i64 (cmpO 2 l k)) ∧ Below w.heap.size w w' := by
  have H1 := Lib.hid h
  have H2 := Lib.hid g
  have en := Kd.C_len h
  have em := Kd.C_len g
  have hx : Hid (cmpO 2 l k = if l.length = k.length then cmpI l k else if l.length < k.length then -1 else 1) := by unfold cmpO; rw [if_neg (by omega), if_pos rfl]; rfl
  clear h g
  rw [en, em] at hx
  clear en em
  by_cases z : n = m
  · have z1 : ((n : Int) != (m : Int)) = false := by rw [bne_eq_false_iff_eq]; omega
    have hz := Lib.hid z
    clear z
    go_enter Tryd.func79, Tryd.ntmps79
    go_wp2_with (go_at_call 73; refine (bytes_Compare (Kd.C_alloc H1.out _) (Kd.C_alloc H2.out _) hl hk).mono ?_; rintro e w' ⟨rfl, rfl⟩)
    go_ret
    exact ⟨ret_int (by rw [hx.out, if_pos hz.out]), by go_grown⟩
  · have z1 : ((n : Int) != (m : Int)) = true := by rw [bne_iff_ne]; omega
    by_cases y : n < m
    · go_enter Tryd.func79, Tryd.ntmps79
      go_wp2
      go_ret
      exact ⟨ret_int (by rw [hx.out, if_neg z, if_pos y]), by go_grown⟩
    · go_enter Tryd.func79, Tryd.ntmps79
      go_wp2
      go_ret
      exact ⟨ret_int (by rw [hx.out, if_neg z, if_neg y]), by go_grown⟩

set_option maxHeartbeats 400000 in
theorem orderOf_calls (o : Int) (w : World) :
    Calls Tryd.prog 28 #[.int .i64 o] w fun e w' => e = .returned (ordV o) ∧ w = w' := by
  by_cases a : o = 1
  · subst a
    go_enter Tryd.func28, Tryd.ntmps28
    go_wp2
    go_ret
    exact ⟨rfl, rfl⟩
  · have a1 : (o == 1) = false := by rw [beq_eq_false_iff_ne]; exact a
    by_cases b : o = 2
    · subst b
      go_enter Tryd.func28, Tryd.ntmps28
      go_wp2
      go_ret
      exact ⟨rfl, rfl⟩
    · have b1 : (o == 2) = false := by rw [beq_eq_false_iff_ne]; exact b
      have hv : Hid (ordV o = .iface 51 (.agg #[])) := by unfold ordV; rw [if_neg a, if_neg b]; rfl
      go_enter Tryd.func28, Tryd.ntmps28
      go_wp2
      go_ret
      exact ⟨ret_v hv.out.symm, rfl⟩

end Go.Proofs.YtpdibidfjhjoeaaDoor.Con
