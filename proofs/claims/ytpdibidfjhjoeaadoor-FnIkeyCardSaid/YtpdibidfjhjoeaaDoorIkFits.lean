/- Records and internal keys of records: zzFits6, ikeys. -/
import Derived.Test.YtpdibidfjhjoeaaDoorIkLaw
namespace Go.Proofs.YtpdibidfjhjoeaaDoor.Ik
open Go.RowKit Go.Proofs.YtpdibidfjhjoeaaDoorW.PrintWords Go.Proofs.YtpdibidfjhjoeaaDoorW.PrintMore Go.Proofs.YtpdibidfjhjoeaaDoor.Cmp Go.Proofs.YtpdibidfjhjoeaaDoor.Run Go.Proofs.YtpdibidfjhjoeaaDoor.Con Go.Proofs.YtpdibidfjhjoeaaDoor.Le Go.Proofs.YtpdibidfjhjoeaaDoor.Sep
set_option linter.unusedVariables false

set_option maxHeartbeats 400000 in
set_option maxRecDepth 100000 in
theorem fits6_true {w : World} {d : Bool} {K : Option Addr} {n c : Nat} {V : Option Addr} {m e : Nat} (hn : (n : Int) ≤ 2147483647) (hm : (m : Int) ≤ 2147483647) :
    Calls Tryd.prog 21 #[.agg #[.bool d, .slice K n c, .slice V m e]] w fun x w' => x = .returned (.bool true) ∧ Below w.heap.size w w' := by
  have h1 : decide (2147483647 < (n : Int)) = false := decide_eq_false (by omega)
  have h2 : decide (2147483647 < (m : Int)) = false := decide_eq_false (by omega)
  go_enter Tryd.func21, Tryd.ntmps21
  go_wp2
  go_ret
  exact ⟨rfl, by go_grown⟩


theorem fits6_false {w : World} {d : Bool} {K : Option Addr} {n c : Nat} {V : Option Addr} {m e : Nat} (h : ¬ ((n : Int) ≤ 2147483647 ∧ (m : Int) ≤ 2147483647)) :
    Calls Tryd.prog 21 #[.agg #[.bool d, .slice K n c, .slice V m e]] w fun x w' => x = .returned (.bool false) ∧ Below w.heap.size w w' := by
  by_cases h1 : 2147483647 < (n : Int)
  · clear h
    go_enter Tryd.func21, Tryd.ntmps21
    go_wp2
    go_ret
    exact ⟨rfl, by go_grown⟩
  · have h2 : 2147483647 < (m : Int) := by omega
    clear h
    go_enter Tryd.func21, Tryd.ntmps21
    go_wp2
    go_ret
    exact ⟨rfl, by go_grown⟩

def kindOf (d : Bool) : Int := if d then 0 else 1
theorem kindOf_lo (d : Bool) : 0 ≤ kindOf d := by cases d <;> decide
theorem kindOf_hi (d : Bool) : kindOf d ≤ 1 := by cases d <;> decide

theorem kind_calls {w : World} {d : Bool} {K : Option Addr} {n c : Nat} {V : Option Addr} {m e : Nat} :
    Calls Tryd.prog 35 #[.agg #[.bool d, .slice K n c, .slice V m e]] w fun x w' => x = .returned (.int .i64 (kindOf d)) ∧ Below w.heap.size w w' := by
  cases d
  all_goals
    go_enter Tryd.func35, Tryd.ntmps35
    go_wp2
    go_ret
    exact ⟨rfl, by go_grown⟩

theorem cell_any (w : World) (C : Array Value) (t : TypeId) (i : Nat) : (w.alloc (.cells C t)).cell? ⟨w.heap.size, i, none⟩ = C[i]? := by
  have h : (w.alloc (.cells C t)).heap[w.heap.size]? = some (.cells C t (0, 0)) := blk_new w _
  exact blk_cell h i

theorem two_boxes (w : World) (c1 c2 : Array Value) (t : TypeId) : (∀ i, ((w.alloc (.cells c1 t)).alloc (.cells c2 t)).cell? ⟨w.heap.size, i, none⟩ = c1[i]?) ∧ (∀ i, ((w.alloc (.cells c1 t)).alloc (.cells c2 t)).cell? ⟨w.heap.size + 1, i, none⟩ = c2[i]?) ∧ Below w.heap.size w ((w.alloc (.cells c1 t)).alloc (.cells c2 t)) := by
  refine ⟨fun i => ?_, fun i => ?_, below_alloc (below_alloc (Below.refl _ _) _) _⟩
  · have hlt : w.heap.size < (w.alloc (.cells c1 t)).heap.size := by simp [World.alloc_eq]
    rw [(below_alloc (Below.refl (w.alloc (.cells c1 t)).heap.size (w.alloc (.cells c1 t))) (.cells c2 t)).cell hlt]
    exact cell_any w c1 t i
  · have hsz : w.heap.size + 1 = (w.alloc (.cells c1 t)).heap.size := by simp [World.alloc_eq]
    rw [hsz]
    exact cell_any (w.alloc (.cells c1 t)) c2 t i

/-- two internal keys -/
def KeysTold (w : World) (x y : List Int) (e : Ending) (w' : World) : Prop :=
  ∃ A c B d, e = .returned (.tuple #[.slice A x.length c, .slice B y.length d, .bool true]) ∧ Kd.C (Kd.int .u8) w' A x.length x ∧ x.length ≤ c ∧ Kd.C (Kd.int .u8) w' B y.length y ∧ y.length ≤ d ∧ Below w.heap.size w w'

set_option maxHeartbeats 400000 in
set_option maxRecDepth 100000 in
theorem ikeys_calls {w : World} {d1 d2 : Bool} {K : Option Addr} {c : Nat} {V : Option Addr} {m e : Nat} {K' : Option Addr} {c' : Nat} {V' : Option Addr} {m' e' : Nat} {la lb : List Int} {p q : Int}
    (h : Kd.C (Kd.int .u8) w K la.length la) (g : Kd.C (Kd.int .u8) w K' lb.length lb) (hl : la.length ≤ 2147483647) (hl' : lb.length ≤ 2147483647)
    (p0 : 0 ≤ p) (p1 : p ≤ 72057594037927935) (q0 : 0 ≤ q) (q1 : q ≤ 72057594037927935) :
    Calls Tryd.prog 22 #[.agg #[.bool d1, .slice K la.length c, .slice V m e], .agg #[.bool d2, .slice K' lb.length c', .slice V' m' e'], .int .u64 p, .int .u64 q] w (KeysTold w (ikey la p (kindOf d1)) (ikey lb q (kindOf d2))) := by
  have hM1 := fun (w1 : World) (hb : Below w.heap.size w w1) => IkeyMake_calls (c := c) (Kd.C_below h hb) hl p0 p1 (kindOf_lo d1) (kindOf_hi d1)
  have hM2 := fun (w1 : World) (hb : Below w.heap.size w w1) => IkeyMake_calls (c := c') (Kd.C_below g hb) hl' q0 q1 (kindOf_lo d2) (kindOf_hi d2)
  have hk1 := fun (w1 : World) => kind_calls (w := w1) (d := d1) (K := K) (n := la.length) (c := c) (V := V) (m := m) (e := e)
  have hk2 := fun (w1 : World) => kind_calls (w := w1) (d := d2) (K := K') (n := lb.length) (c := c') (V := V') (m := m') (e := e')
  clear h g hl hl'
  generalize ikey la p (kindOf d1) = x at *
  generalize ikey lb q (kindOf d2) = y at *
  generalize kindOf d1 = k1 at *
  generalize kindOf d2 = k2 at *
  go_enter Tryd.func22, Tryd.ntmps22
  go_wp2
  obtain ⟨hc1, hc2, hB0⟩ := two_boxes w #[.bool d1, .slice K la.length c, .slice V m e] #[.bool d2, .slice K' lb.length c', .slice V' m' e'] 42
  generalize ((w.alloc (Obj.cells #[Value.bool d1, Value.slice K la.length c, Value.slice V m e] 42)).alloc (Obj.cells #[Value.bool d2, Value.slice K' lb.length c', Value.slice V' m' e'] 42)) = W0 at *
  have hz := hB0.size
  obtain ⟨b, hb⟩ : ∃ b, b = w.heap.size := ⟨_, rfl⟩
  have c10 : W0.cell? ⟨w.heap.size, 0, none⟩ = some (.bool d1) := hc1 0
  have c11 : W0.cell? ⟨w.heap.size, 1, none⟩ = some (.slice K la.length c) := hc1 1
  have c12 : W0.cell? ⟨w.heap.size, 2, none⟩ = some (.slice V m e) := hc1 2
  have c20 : W0.cell? ⟨w.heap.size + 1, 0, none⟩ = some (.bool d2) := hc2 0
  have c21 : W0.cell? ⟨w.heap.size + 1, 1, none⟩ = some (.slice K' lb.length c') := hc2 1
  have c22 : W0.cell? ⟨w.heap.size + 1, 2, none⟩ = some (.slice V' m' e') := hc2 2
  clear hc1 hc2
  go_region_held3 (fun W => W.cell? ⟨w.heap.size, 0, none⟩ = some (.bool d1) ∧ W.cell? ⟨w.heap.size, 1, none⟩ = some (.slice K la.length c) ∧ W.cell? ⟨w.heap.size, 2, none⟩ = some (.slice V m e))
    (first | exact ⟨pw_cell_below hb2 (pw_cell_below hb1 c10), pw_cell_below hb2 (pw_cell_below hb1 c11), pw_cell_below hb2 (pw_cell_below hb1 c12)⟩ | exact ⟨pw_cell_below hb1 c10, pw_cell_below hb1 c11, pw_cell_below hb1 c12⟩ | exact ⟨c10, c11, c12⟩)
    (first
      | (go_at_call 35; refine (hk1 _).mono ?_; rintro e w1 ⟨rfl, hb1⟩)
      | (go_at_call 15; refine (hM1 _ (below_then hB0.drew hz hb1)).mono ?_; rintro e w2 ⟨A2, cc2, rfl, hr2, hx2, hb2⟩))
  have hB1 := below_then hB0.drew hz hb1
  have hB2 := below_then hB1 hB1.size hb2
  have e20 := pw_cell_below hb2 (pw_cell_below hb1 c20)
  have e21 := pw_cell_below hb2 (pw_cell_below hb1 c21)
  have e22 := pw_cell_below hb2 (pw_cell_below hb1 c22)
  clear c10 c11 c12 c20 c21 c22 hb1 hb2 hM1 hk1 hB0 hB1 hz
  have HR2 := Lib.hid hr2
  clear hr2
  have hz := hB2.size
  go_wp2
  go_region_held3 (fun W => W.cell? ⟨w.heap.size + 1, 0, none⟩ = some (.bool d2) ∧ W.cell? ⟨w.heap.size + 1, 1, none⟩ = some (.slice K' lb.length c') ∧ W.cell? ⟨w.heap.size + 1, 2, none⟩ = some (.slice V' m' e'))
    (first | exact ⟨pw_cell_below hb4 (pw_cell_below hb3 e20), pw_cell_below hb4 (pw_cell_below hb3 e21), pw_cell_below hb4 (pw_cell_below hb3 e22)⟩ | exact ⟨pw_cell_below hb3 e20, pw_cell_below hb3 e21, pw_cell_below hb3 e22⟩ | exact ⟨e20, e21, e22⟩)
    (first
      | (go_at_call 35; refine (hk2 _).mono ?_; rintro e w3 ⟨rfl, hb3⟩)
      | (go_at_call 15; refine (hM2 _ (below_then hB2.drew hz hb3)).mono ?_; rintro e w4 ⟨A4, cc4, rfl, hr4, hx4, hb4⟩))
  have hB3 := below_then hB2.drew hz hb3
  have hR3 := Kd.C_below (Kd.C_below (show Kd.C (Kd.int .u8) w2.drew A2 x.length x from HR2.out) hb3) hb4
  have hB4 := below_then hB3 hB3.size hb4
  clear e20 e21 e22 hb3 hb4 hM2 hk2
  go_wp2
  go_ret3
  exact ⟨A2, cc2, A4, cc4, rfl, hR3, hx2, hr4, hx4, hB4⟩

end Go.Proofs.YtpdibidfjhjoeaaDoor.Ik
