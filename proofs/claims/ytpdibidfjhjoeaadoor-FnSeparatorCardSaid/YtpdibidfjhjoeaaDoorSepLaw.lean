/- FnSeparator: the law's walks, one for each way through it. Written by wip/tools/gen_sep.py. -/
import Derived.Test.YtpdibidfjhjoeaaDoorSepClo
namespace Go.Proofs.YtpdibidfjhjoeaaDoor.Sep
open Go.RowKit Go.Sort Go.Proofs.YtpdibidfjhjoeaaDoorW.PrintWords Go.Proofs.YtpdibidfjhjoeaaDoor.Cmp Go.Proofs.YtpdibidfjhjoeaaDoor.Run Go.Proofs.YtpdibidfjhjoeaaDoor.Con Go.Proofs.YtpdibidfjhjoeaaDoor.SepPlain Go.Proofs.YtpdibidfjhjoeaaDoor.PFnOrders
set_option linter.unusedVariables false

theorem cut_at {X : Option Addr} {n c m : Nat} (hm : m ≤ n) : ∃ A' : Option Addr, (∀ W : World, (Instr.slice 22 (.slice X n c) (some (.int .i64 (m : Int))) none none).run Tryd.prog W = .ok (.slice A' (n - m) (c - m)) W) ∧
    ∀ (w : World) (xs : List Int), n ≤ c → Kd.C (Kd.int .u8) w X n xs → Kd.C (Kd.int .u8) w A' (n - m) (xs.drop m) := by
  obtain ⟨i0, hi, hzz⟩ := Option.map_eq_some_iff.1 info_u8
  simp only [Prod.mk.injEq] at hzz
  obtain ⟨A', h1, h2⟩ := print_cut (P := Tryd.prog) 22 5 .i64 Tryd.underlying22 hi hzz.2.1 X n c m hm
  exact ⟨A', h1, fun w xs hc hx => ints_C (h2 w .u8 xs hc (C_ints hx))⟩

theorem drop_pre (ds s : List Int) : (ds ++ s).drop ds.length = s := List.drop_left' rfl
theorem not_before {l s : List Int} (h : cmpI l s < 0) : decide (cmpI s l < 0) = false := by
  have := cmpI_swap l s
  exact decide_eq_false (by omega)
theorem not_same {l s : List Int} (h : cmpI l s < 0) : decide (s = l) = false := by
  refine decide_eq_false fun e => ?_
  rw [e, cmpI_refl] at h
  omega

set_option maxRecDepth 100000 in
set_option maxHeartbeats 1600000 in
theorem law_keep_none_no {w : World} {D : Option Addr} {cd : Nat} {ds : List Int} {A : Option Addr} {ca : Nat} {la : List Int} {B : Option Addr} {cb : Nat} {lb : List Int}
    (hd : Kd.C (Kd.int .u8) w D ds.length ds) (hcd : ds.length ≤ cd) (ha : Kd.C (Kd.int .u8) w A la.length la) (hca : la.length ≤ ca) (ba : Hid (Byt la)) (hb : Kd.C (Kd.int .u8) w B lb.length lb) (hcb : lb.length ≤ cb) (bb : Hid (Byt lb))
    (gd : ds.length ≤ 2147483647) (ga : la.length ≤ 2147483647) (gb : lb.length ≤ 2147483647) (hs : Hid (decide (cmpI lb la < 0) = false)) (hu : Hid (succI lb = none)) (ht : Hid (decide (cmpI la lb < 0) = false)) :
    Calls Tryd.prog 3 #[.slice D ds.length cd, .slice A la.length ca, .slice B lb.length cb] w fun e w' => e = .returned (.bool true) ∧ Below w.heap.size w w' := by
  have HD0 := Lib.hid (Kd.C_alloc hd (.cells #[.slice D ds.length cd] 22))
  have HA0 := Lib.hid (Kd.C_alloc ha (.cells #[.slice D ds.length cd] 22))
  have HB0 := Lib.hid (Kd.C_alloc hb (.cells #[.slice D ds.length cd] 22))
  have BB0 : Hid (Below w.heap.size w (w.alloc (.cells #[.slice D ds.length cd] 22))) := below_alloc (Below.refl _ _) _
  clear hd ha hb
  go_enter Tryd.func3, Tryd.ntmps3
  go_wp2_with fail
  refine (Before_r false hs.out HB0.out hcb HA0.out hca).mono ?_
  rintro e w1 ⟨rfl, hb1⟩
  have HD1 := Lib.hid (Kd.C_below HD0.out hb1)
  have HA1 := Lib.hid (Kd.C_below HA0.out hb1)
  have HB1 := Lib.hid (Kd.C_below HB0.out hb1)
  have cc1 : w1.cell? ⟨w.heap.size, 0, none⟩ = some (.slice D ds.length cd) := pw_cell_below hb1 (by simp)
  have BB1 : Hid (Below w.heap.size w w1) := below_then BB0.out BB0.out.size hb1
  clear hb1 HD0 HA0 HB0 BB0
  go_wp2_with fail
  refine (Successor_none HD1.out HB1.out hcb bb.out hu.out (by omega)).mono ?_
  rintro e w2 ⟨X, cX, rfl, hrX, hcX, hb2⟩
  have HD2 := Lib.hid (Kd.C_below HD1.out hb2)
  have HA2 := Lib.hid (Kd.C_below HA1.out hb2)
  have HB2 := Lib.hid (Kd.C_below HB1.out hb2)
  have cc2 : w2.cell? ⟨w.heap.size, 0, none⟩ = some (.slice D ds.length cd) := pw_cell_below hb2 cc1
  have BB2 : Hid (Below w.heap.size w w2) := below_then BB1.out BB1.out.size hb2
  clear hb2 HD1 HA1 HB1 BB1 cc1
  clear hrX
  go_wp2_with fail
  refine (Before_r false ht.out HA2.out hca HB2.out hcb).mono ?_
  rintro e w3 ⟨rfl, hb3⟩
  have HD3 := Lib.hid (Kd.C_below HD2.out hb3)
  have HA3 := Lib.hid (Kd.C_below HA2.out hb3)
  have HB3 := Lib.hid (Kd.C_below HB2.out hb3)
  have cc3 : w3.cell? ⟨w.heap.size, 0, none⟩ = some (.slice D ds.length cd) := pw_cell_below hb3 cc2
  have BB3 : Hid (Below w.heap.size w w3) := below_then BB2.out BB2.out.size hb3
  clear hb3 HD2 HA2 HB2 BB2 cc2
  go_wp2_with fail
  go_ret
  exact ⟨rfl, BB3.out⟩

set_option maxRecDepth 100000 in
set_option maxHeartbeats 1600000 in
theorem law_keep_none_none {w : World} {D : Option Addr} {cd : Nat} {ds : List Int} {A : Option Addr} {ca : Nat} {la : List Int} {B : Option Addr} {cb : Nat} {lb : List Int}
    (hd : Kd.C (Kd.int .u8) w D ds.length ds) (hcd : ds.length ≤ cd) (ha : Kd.C (Kd.int .u8) w A la.length la) (hca : la.length ≤ ca) (ba : Hid (Byt la)) (hb : Kd.C (Kd.int .u8) w B lb.length lb) (hcb : lb.length ≤ cb) (bb : Hid (Byt lb))
    (gd : ds.length ≤ 2147483647) (ga : la.length ≤ 2147483647) (gb : lb.length ≤ 2147483647) (hs : Hid (decide (cmpI lb la < 0) = false)) (hu : Hid (succI lb = none)) (ht : Hid (decide (cmpI la lb < 0) = true)) (hp : Hid (sepI la lb = none)) :
    Calls Tryd.prog 3 #[.slice D ds.length cd, .slice A la.length ca, .slice B lb.length cb] w fun e w' => e = .returned (.bool true) ∧ Below w.heap.size w w' := by
  have HD0 := Lib.hid (Kd.C_alloc hd (.cells #[.slice D ds.length cd] 22))
  have HA0 := Lib.hid (Kd.C_alloc ha (.cells #[.slice D ds.length cd] 22))
  have HB0 := Lib.hid (Kd.C_alloc hb (.cells #[.slice D ds.length cd] 22))
  have BB0 : Hid (Below w.heap.size w (w.alloc (.cells #[.slice D ds.length cd] 22))) := below_alloc (Below.refl _ _) _
  clear hd ha hb
  go_enter Tryd.func3, Tryd.ntmps3
  go_wp2_with fail
  refine (Before_r false hs.out HB0.out hcb HA0.out hca).mono ?_
  rintro e w1 ⟨rfl, hb1⟩
  have HD1 := Lib.hid (Kd.C_below HD0.out hb1)
  have HA1 := Lib.hid (Kd.C_below HA0.out hb1)
  have HB1 := Lib.hid (Kd.C_below HB0.out hb1)
  have cc1 : w1.cell? ⟨w.heap.size, 0, none⟩ = some (.slice D ds.length cd) := pw_cell_below hb1 (by simp)
  have BB1 : Hid (Below w.heap.size w w1) := below_then BB0.out BB0.out.size hb1
  clear hb1 HD0 HA0 HB0 BB0
  go_wp2_with fail
  refine (Successor_none HD1.out HB1.out hcb bb.out hu.out (by omega)).mono ?_
  rintro e w2 ⟨X, cX, rfl, hrX, hcX, hb2⟩
  have HD2 := Lib.hid (Kd.C_below HD1.out hb2)
  have HA2 := Lib.hid (Kd.C_below HA1.out hb2)
  have HB2 := Lib.hid (Kd.C_below HB1.out hb2)
  have cc2 : w2.cell? ⟨w.heap.size, 0, none⟩ = some (.slice D ds.length cd) := pw_cell_below hb2 cc1
  have BB2 : Hid (Below w.heap.size w w2) := below_then BB1.out BB1.out.size hb2
  clear hb2 HD1 HA1 HB1 BB1 cc1
  clear hrX
  go_wp2_with fail
  refine (Before_r true ht.out HA2.out hca HB2.out hcb).mono ?_
  rintro e w3 ⟨rfl, hb3⟩
  have HD3 := Lib.hid (Kd.C_below HD2.out hb3)
  have HA3 := Lib.hid (Kd.C_below HA2.out hb3)
  have HB3 := Lib.hid (Kd.C_below HB2.out hb3)
  have cc3 : w3.cell? ⟨w.heap.size, 0, none⟩ = some (.slice D ds.length cd) := pw_cell_below hb3 cc2
  have BB3 : Hid (Below w.heap.size w w3) := below_then BB2.out BB2.out.size hb3
  clear hb3 HD2 HA2 HB2 BB2 cc2
  go_wp2_with fail
  refine (Separator_none HD3.out HA3.out HB3.out hca ba.out bb.out hp.out (by omega)).mono ?_
  rintro e w4 ⟨Y, cY, rfl, hrY, hcY, hb4⟩
  have HD4 := Lib.hid (Kd.C_below HD3.out hb4)
  have HA4 := Lib.hid (Kd.C_below HA3.out hb4)
  have HB4 := Lib.hid (Kd.C_below HB3.out hb4)
  have cc4 : w4.cell? ⟨w.heap.size, 0, none⟩ = some (.slice D ds.length cd) := pw_cell_below hb4 cc3
  have BB4 : Hid (Below w.heap.size w w4) := below_then BB3.out BB3.out.size hb4
  clear hb4 HD3 HA3 HB3 BB3 cc3
  clear hrY
  go_wp2_with fail
  go_ret
  exact ⟨rfl, BB4.out⟩

set_option maxRecDepth 100000 in
set_option maxHeartbeats 1600000 in
theorem law_keep_none_some {w : World} {D : Option Addr} {cd : Nat} {ds sp : List Int} {A : Option Addr} {ca : Nat} {la : List Int} {B : Option Addr} {cb : Nat} {lb : List Int}
    (hd : Kd.C (Kd.int .u8) w D ds.length ds) (hcd : ds.length ≤ cd) (ha : Kd.C (Kd.int .u8) w A la.length la) (hca : la.length ≤ ca) (ba : Hid (Byt la)) (hb : Kd.C (Kd.int .u8) w B lb.length lb) (hcb : lb.length ≤ cb) (bb : Hid (Byt lb))
    (gd : ds.length ≤ 2147483647) (ga : la.length ≤ 2147483647) (gb : lb.length ≤ 2147483647) (hs : Hid (decide (cmpI lb la < 0) = false)) (hu : Hid (succI lb = none)) (ht : Hid (decide (cmpI la lb < 0) = true)) (hp : Hid (sepI la lb = some sp)) :
    Calls Tryd.prog 3 #[.slice D ds.length cd, .slice A la.length ca, .slice B lb.length cb] w fun e w' => e = .returned (.bool true) ∧ Below w.heap.size w w' := by
  have HD0 := Lib.hid (Kd.C_alloc hd (.cells #[.slice D ds.length cd] 22))
  have HA0 := Lib.hid (Kd.C_alloc ha (.cells #[.slice D ds.length cd] 22))
  have HB0 := Lib.hid (Kd.C_alloc hb (.cells #[.slice D ds.length cd] 22))
  have BB0 : Hid (Below w.heap.size w (w.alloc (.cells #[.slice D ds.length cd] 22))) := below_alloc (Below.refl _ _) _
  clear hd ha hb
  go_enter Tryd.func3, Tryd.ntmps3
  go_wp2_with fail
  refine (Before_r false hs.out HB0.out hcb HA0.out hca).mono ?_
  rintro e w1 ⟨rfl, hb1⟩
  have HD1 := Lib.hid (Kd.C_below HD0.out hb1)
  have HA1 := Lib.hid (Kd.C_below HA0.out hb1)
  have HB1 := Lib.hid (Kd.C_below HB0.out hb1)
  have cc1 : w1.cell? ⟨w.heap.size, 0, none⟩ = some (.slice D ds.length cd) := pw_cell_below hb1 (by simp)
  have BB1 : Hid (Below w.heap.size w w1) := below_then BB0.out BB0.out.size hb1
  clear hb1 HD0 HA0 HB0 BB0
  go_wp2_with fail
  refine (Successor_none HD1.out HB1.out hcb bb.out hu.out (by omega)).mono ?_
  rintro e w2 ⟨X, cX, rfl, hrX, hcX, hb2⟩
  have HD2 := Lib.hid (Kd.C_below HD1.out hb2)
  have HA2 := Lib.hid (Kd.C_below HA1.out hb2)
  have HB2 := Lib.hid (Kd.C_below HB1.out hb2)
  have cc2 : w2.cell? ⟨w.heap.size, 0, none⟩ = some (.slice D ds.length cd) := pw_cell_below hb2 cc1
  have BB2 : Hid (Below w.heap.size w w2) := below_then BB1.out BB1.out.size hb2
  clear hb2 HD1 HA1 HB1 BB1 cc1
  clear hrX
  go_wp2_with fail
  refine (Before_r true ht.out HA2.out hca HB2.out hcb).mono ?_
  rintro e w3 ⟨rfl, hb3⟩
  have HD3 := Lib.hid (Kd.C_below HD2.out hb3)
  have HA3 := Lib.hid (Kd.C_below HA2.out hb3)
  have HB3 := Lib.hid (Kd.C_below HB2.out hb3)
  have cc3 : w3.cell? ⟨w.heap.size, 0, none⟩ = some (.slice D ds.length cd) := pw_cell_below hb3 cc2
  have BB3 : Hid (Below w.heap.size w w3) := below_then BB2.out BB2.out.size hb3
  clear hb3 HD2 HA2 HB2 BB2 cc2
  go_wp2_with fail
  refine (Separator_some HD3.out HA3.out HB3.out hca ba.out bb.out hp.out (by omega)).mono ?_
  rintro e w4 ⟨Y, cY, rfl, hrY, hcY, hb4⟩
  have HD4 := Lib.hid (Kd.C_below HD3.out hb4)
  have HA4 := Lib.hid (Kd.C_below HA3.out hb4)
  have HB4 := Lib.hid (Kd.C_below HB3.out hb4)
  have cc4 : w4.cell? ⟨w.heap.size, 0, none⟩ = some (.slice D ds.length cd) := pw_cell_below hb4 cc3
  have BB4 : Hid (Below w.heap.size w w4) := below_then BB3.out BB3.out.size hb4
  clear hb4 HD3 HA3 HB3 BB3 cc3
  have HY4 := Lib.hid hrY
  have nY : (ds ++ sp).length = ds.length + sp.length := by simp
  obtain ⟨Y', hcutY, hrdY⟩ := cut_at (X := Y) (n := (ds ++ sp).length) (c := cY) (m := ds.length) (by omega)
  have HY'4 := Lib.hid (hrdY _ _ hcY hrY)
  rw [drop_pre] at HY'4
  clear hrY hrdY
  generalize (ds ++ sp).length = mY at * 
  clear nY
  have lt1 := Lib.hid (sepI_between _ _ _ hp.out).1
  have lt2 := Lib.hid (sepI_between _ _ _ hp.out).2
  go_wp2_with fail
  refine (ahead_true cc4 HD4.out hcd HY4.out hcY).mono ?_
  rintro e w5 ⟨rfl, hb5⟩
  have HD5 := Lib.hid (Kd.C_below HD4.out hb5)
  have HA5 := Lib.hid (Kd.C_below HA4.out hb5)
  have HB5 := Lib.hid (Kd.C_below HB4.out hb5)
  have HY5 := Lib.hid (Kd.C_below HY4.out hb5)
  have HY'5 := Lib.hid (Kd.C_below HY'4.out hb5)
  have cc5 : w5.cell? ⟨w.heap.size, 0, none⟩ = some (.slice D ds.length cd) := pw_cell_below hb5 cc4
  have BB5 : Hid (Below w.heap.size w w5) := below_then BB4.out BB4.out.size hb5
  clear hb5 HD4 HA4 HB4 HY4 HY'4 BB4 cc4
  go_wp2_with fail
  refine (Before_r true (decide_eq_true lt1.out) HA5.out hca HY'5.out (by omega)).mono ?_
  rintro e w6 ⟨rfl, hb6⟩
  have HD6 := Lib.hid (Kd.C_below HD5.out hb6)
  have HA6 := Lib.hid (Kd.C_below HA5.out hb6)
  have HB6 := Lib.hid (Kd.C_below HB5.out hb6)
  have HY6 := Lib.hid (Kd.C_below HY5.out hb6)
  have HY'6 := Lib.hid (Kd.C_below HY'5.out hb6)
  have cc6 : w6.cell? ⟨w.heap.size, 0, none⟩ = some (.slice D ds.length cd) := pw_cell_below hb6 cc5
  have BB6 : Hid (Below w.heap.size w w6) := below_then BB5.out BB5.out.size hb6
  clear hb6 HD5 HA5 HB5 HY5 HY'5 BB5 cc5
  go_wp2_with fail
  refine (Before_r true (decide_eq_true lt2.out) HY'6.out (by omega) HB6.out hcb).mono ?_
  rintro e w7 ⟨rfl, hb7⟩
  have HD7 := Lib.hid (Kd.C_below HD6.out hb7)
  have HA7 := Lib.hid (Kd.C_below HA6.out hb7)
  have HB7 := Lib.hid (Kd.C_below HB6.out hb7)
  have HY7 := Lib.hid (Kd.C_below HY6.out hb7)
  have HY'7 := Lib.hid (Kd.C_below HY'6.out hb7)
  have cc7 : w7.cell? ⟨w.heap.size, 0, none⟩ = some (.slice D ds.length cd) := pw_cell_below hb7 cc6
  have BB7 : Hid (Below w.heap.size w w7) := below_then BB6.out BB6.out.size hb7
  clear hb7 HD6 HA6 HB6 HY6 HY'6 BB6 cc6
  go_wp2_with fail
  go_ret
  exact ⟨rfl, BB7.out⟩

set_option maxRecDepth 100000 in
set_option maxHeartbeats 1600000 in
theorem law_keep_some_no {w : World} {D : Option Addr} {cd : Nat} {ds su : List Int} {A : Option Addr} {ca : Nat} {la : List Int} {B : Option Addr} {cb : Nat} {lb : List Int}
    (hd : Kd.C (Kd.int .u8) w D ds.length ds) (hcd : ds.length ≤ cd) (ha : Kd.C (Kd.int .u8) w A la.length la) (hca : la.length ≤ ca) (ba : Hid (Byt la)) (hb : Kd.C (Kd.int .u8) w B lb.length lb) (hcb : lb.length ≤ cb) (bb : Hid (Byt lb))
    (gd : ds.length ≤ 2147483647) (ga : la.length ≤ 2147483647) (gb : lb.length ≤ 2147483647) (hs : Hid (decide (cmpI lb la < 0) = false)) (hu : Hid (succI lb = some su)) (ht : Hid (decide (cmpI la lb < 0) = false)) :
    Calls Tryd.prog 3 #[.slice D ds.length cd, .slice A la.length ca, .slice B lb.length cb] w fun e w' => e = .returned (.bool true) ∧ Below w.heap.size w w' := by
  have HD0 := Lib.hid (Kd.C_alloc hd (.cells #[.slice D ds.length cd] 22))
  have HA0 := Lib.hid (Kd.C_alloc ha (.cells #[.slice D ds.length cd] 22))
  have HB0 := Lib.hid (Kd.C_alloc hb (.cells #[.slice D ds.length cd] 22))
  have BB0 : Hid (Below w.heap.size w (w.alloc (.cells #[.slice D ds.length cd] 22))) := below_alloc (Below.refl _ _) _
  clear hd ha hb
  go_enter Tryd.func3, Tryd.ntmps3
  go_wp2_with fail
  refine (Before_r false hs.out HB0.out hcb HA0.out hca).mono ?_
  rintro e w1 ⟨rfl, hb1⟩
  have HD1 := Lib.hid (Kd.C_below HD0.out hb1)
  have HA1 := Lib.hid (Kd.C_below HA0.out hb1)
  have HB1 := Lib.hid (Kd.C_below HB0.out hb1)
  have cc1 : w1.cell? ⟨w.heap.size, 0, none⟩ = some (.slice D ds.length cd) := pw_cell_below hb1 (by simp)
  have BB1 : Hid (Below w.heap.size w w1) := below_then BB0.out BB0.out.size hb1
  clear hb1 HD0 HA0 HB0 BB0
  go_wp2_with fail
  refine (Successor_some HD1.out HB1.out hcb bb.out hu.out (by omega)).mono ?_
  rintro e w2 ⟨X, cX, rfl, hrX, hcX, hb2⟩
  have HD2 := Lib.hid (Kd.C_below HD1.out hb2)
  have HA2 := Lib.hid (Kd.C_below HA1.out hb2)
  have HB2 := Lib.hid (Kd.C_below HB1.out hb2)
  have cc2 : w2.cell? ⟨w.heap.size, 0, none⟩ = some (.slice D ds.length cd) := pw_cell_below hb2 cc1
  have BB2 : Hid (Below w.heap.size w w2) := below_then BB1.out BB1.out.size hb2
  clear hb2 HD1 HA1 HB1 BB1 cc1
  have HX2 := Lib.hid hrX
  have nX : (ds ++ su).length = ds.length + su.length := by simp
  obtain ⟨X', hcutX, hrdX⟩ := cut_at (X := X) (n := (ds ++ su).length) (c := cX) (m := ds.length) (by omega)
  have HX'2 := Lib.hid (hrdX _ _ hcX hrX)
  rw [drop_pre] at HX'2
  clear hrX hrdX
  generalize (ds ++ su).length = mX at * 
  clear nX
  have lt := Lib.hid (succI_behind _ _ hu.out)
  go_wp2_with fail
  refine (ahead_true cc2 HD2.out hcd HX2.out hcX).mono ?_
  rintro e w3 ⟨rfl, hb3⟩
  have HD3 := Lib.hid (Kd.C_below HD2.out hb3)
  have HA3 := Lib.hid (Kd.C_below HA2.out hb3)
  have HB3 := Lib.hid (Kd.C_below HB2.out hb3)
  have HX3 := Lib.hid (Kd.C_below HX2.out hb3)
  have HX'3 := Lib.hid (Kd.C_below HX'2.out hb3)
  have cc3 : w3.cell? ⟨w.heap.size, 0, none⟩ = some (.slice D ds.length cd) := pw_cell_below hb3 cc2
  have BB3 : Hid (Below w.heap.size w w3) := below_then BB2.out BB2.out.size hb3
  clear hb3 HD2 HA2 HB2 HX2 HX'2 BB2 cc2
  go_wp2_with fail
  refine (Before_r false (not_before lt.out) HX'3.out (by omega) HB3.out hcb).mono ?_
  rintro e w4 ⟨rfl, hb4⟩
  have HD4 := Lib.hid (Kd.C_below HD3.out hb4)
  have HA4 := Lib.hid (Kd.C_below HA3.out hb4)
  have HB4 := Lib.hid (Kd.C_below HB3.out hb4)
  have HX4 := Lib.hid (Kd.C_below HX3.out hb4)
  have HX'4 := Lib.hid (Kd.C_below HX'3.out hb4)
  have cc4 : w4.cell? ⟨w.heap.size, 0, none⟩ = some (.slice D ds.length cd) := pw_cell_below hb4 cc3
  have BB4 : Hid (Below w.heap.size w w4) := below_then BB3.out BB3.out.size hb4
  clear hb4 HD3 HA3 HB3 HX3 HX'3 BB3 cc3
  go_wp2_with fail
  refine (Bytes_r false (not_same lt.out) HX'4.out (by omega) HB4.out hcb).mono ?_
  rintro e w5 ⟨rfl, hb5⟩
  have HD5 := Lib.hid (Kd.C_below HD4.out hb5)
  have HA5 := Lib.hid (Kd.C_below HA4.out hb5)
  have HB5 := Lib.hid (Kd.C_below HB4.out hb5)
  have HX5 := Lib.hid (Kd.C_below HX4.out hb5)
  have HX'5 := Lib.hid (Kd.C_below HX'4.out hb5)
  have cc5 : w5.cell? ⟨w.heap.size, 0, none⟩ = some (.slice D ds.length cd) := pw_cell_below hb5 cc4
  have BB5 : Hid (Below w.heap.size w w5) := below_then BB4.out BB4.out.size hb5
  clear hb5 HD4 HA4 HB4 HX4 HX'4 BB4 cc4
  clear HX5 HX'5 lt hcutX
  go_wp2_with fail
  refine (Before_r false ht.out HA5.out hca HB5.out hcb).mono ?_
  rintro e w6 ⟨rfl, hb6⟩
  have HD6 := Lib.hid (Kd.C_below HD5.out hb6)
  have HA6 := Lib.hid (Kd.C_below HA5.out hb6)
  have HB6 := Lib.hid (Kd.C_below HB5.out hb6)
  have cc6 : w6.cell? ⟨w.heap.size, 0, none⟩ = some (.slice D ds.length cd) := pw_cell_below hb6 cc5
  have BB6 : Hid (Below w.heap.size w w6) := below_then BB5.out BB5.out.size hb6
  clear hb6 HD5 HA5 HB5 BB5 cc5
  go_wp2_with fail
  go_ret
  exact ⟨rfl, BB6.out⟩

set_option maxRecDepth 100000 in
set_option maxHeartbeats 1600000 in
theorem law_keep_some_none {w : World} {D : Option Addr} {cd : Nat} {ds su : List Int} {A : Option Addr} {ca : Nat} {la : List Int} {B : Option Addr} {cb : Nat} {lb : List Int}
    (hd : Kd.C (Kd.int .u8) w D ds.length ds) (hcd : ds.length ≤ cd) (ha : Kd.C (Kd.int .u8) w A la.length la) (hca : la.length ≤ ca) (ba : Hid (Byt la)) (hb : Kd.C (Kd.int .u8) w B lb.length lb) (hcb : lb.length ≤ cb) (bb : Hid (Byt lb))
    (gd : ds.length ≤ 2147483647) (ga : la.length ≤ 2147483647) (gb : lb.length ≤ 2147483647) (hs : Hid (decide (cmpI lb la < 0) = false)) (hu : Hid (succI lb = some su)) (ht : Hid (decide (cmpI la lb < 0) = true)) (hp : Hid (sepI la lb = none)) :
    Calls Tryd.prog 3 #[.slice D ds.length cd, .slice A la.length ca, .slice B lb.length cb] w fun e w' => e = .returned (.bool true) ∧ Below w.heap.size w w' := by
  have HD0 := Lib.hid (Kd.C_alloc hd (.cells #[.slice D ds.length cd] 22))
  have HA0 := Lib.hid (Kd.C_alloc ha (.cells #[.slice D ds.length cd] 22))
  have HB0 := Lib.hid (Kd.C_alloc hb (.cells #[.slice D ds.length cd] 22))
  have BB0 : Hid (Below w.heap.size w (w.alloc (.cells #[.slice D ds.length cd] 22))) := below_alloc (Below.refl _ _) _
  clear hd ha hb
  go_enter Tryd.func3, Tryd.ntmps3
  go_wp2_with fail
  refine (Before_r false hs.out HB0.out hcb HA0.out hca).mono ?_
  rintro e w1 ⟨rfl, hb1⟩
  have HD1 := Lib.hid (Kd.C_below HD0.out hb1)
  have HA1 := Lib.hid (Kd.C_below HA0.out hb1)
  have HB1 := Lib.hid (Kd.C_below HB0.out hb1)
  have cc1 : w1.cell? ⟨w.heap.size, 0, none⟩ = some (.slice D ds.length cd) := pw_cell_below hb1 (by simp)
  have BB1 : Hid (Below w.heap.size w w1) := below_then BB0.out BB0.out.size hb1
  clear hb1 HD0 HA0 HB0 BB0
  go_wp2_with fail
  refine (Successor_some HD1.out HB1.out hcb bb.out hu.out (by omega)).mono ?_
  rintro e w2 ⟨X, cX, rfl, hrX, hcX, hb2⟩
  have HD2 := Lib.hid (Kd.C_below HD1.out hb2)
  have HA2 := Lib.hid (Kd.C_below HA1.out hb2)
  have HB2 := Lib.hid (Kd.C_below HB1.out hb2)
  have cc2 : w2.cell? ⟨w.heap.size, 0, none⟩ = some (.slice D ds.length cd) := pw_cell_below hb2 cc1
  have BB2 : Hid (Below w.heap.size w w2) := below_then BB1.out BB1.out.size hb2
  clear hb2 HD1 HA1 HB1 BB1 cc1
  have HX2 := Lib.hid hrX
  have nX : (ds ++ su).length = ds.length + su.length := by simp
  obtain ⟨X', hcutX, hrdX⟩ := cut_at (X := X) (n := (ds ++ su).length) (c := cX) (m := ds.length) (by omega)
  have HX'2 := Lib.hid (hrdX _ _ hcX hrX)
  rw [drop_pre] at HX'2
  clear hrX hrdX
  generalize (ds ++ su).length = mX at * 
  clear nX
  have lt := Lib.hid (succI_behind _ _ hu.out)
  go_wp2_with fail
  refine (ahead_true cc2 HD2.out hcd HX2.out hcX).mono ?_
  rintro e w3 ⟨rfl, hb3⟩
  have HD3 := Lib.hid (Kd.C_below HD2.out hb3)
  have HA3 := Lib.hid (Kd.C_below HA2.out hb3)
  have HB3 := Lib.hid (Kd.C_below HB2.out hb3)
  have HX3 := Lib.hid (Kd.C_below HX2.out hb3)
  have HX'3 := Lib.hid (Kd.C_below HX'2.out hb3)
  have cc3 : w3.cell? ⟨w.heap.size, 0, none⟩ = some (.slice D ds.length cd) := pw_cell_below hb3 cc2
  have BB3 : Hid (Below w.heap.size w w3) := below_then BB2.out BB2.out.size hb3
  clear hb3 HD2 HA2 HB2 HX2 HX'2 BB2 cc2
  go_wp2_with fail
  refine (Before_r false (not_before lt.out) HX'3.out (by omega) HB3.out hcb).mono ?_
  rintro e w4 ⟨rfl, hb4⟩
  have HD4 := Lib.hid (Kd.C_below HD3.out hb4)
  have HA4 := Lib.hid (Kd.C_below HA3.out hb4)
  have HB4 := Lib.hid (Kd.C_below HB3.out hb4)
  have HX4 := Lib.hid (Kd.C_below HX3.out hb4)
  have HX'4 := Lib.hid (Kd.C_below HX'3.out hb4)
  have cc4 : w4.cell? ⟨w.heap.size, 0, none⟩ = some (.slice D ds.length cd) := pw_cell_below hb4 cc3
  have BB4 : Hid (Below w.heap.size w w4) := below_then BB3.out BB3.out.size hb4
  clear hb4 HD3 HA3 HB3 HX3 HX'3 BB3 cc3
  go_wp2_with fail
  refine (Bytes_r false (not_same lt.out) HX'4.out (by omega) HB4.out hcb).mono ?_
  rintro e w5 ⟨rfl, hb5⟩
  have HD5 := Lib.hid (Kd.C_below HD4.out hb5)
  have HA5 := Lib.hid (Kd.C_below HA4.out hb5)
  have HB5 := Lib.hid (Kd.C_below HB4.out hb5)
  have HX5 := Lib.hid (Kd.C_below HX4.out hb5)
  have HX'5 := Lib.hid (Kd.C_below HX'4.out hb5)
  have cc5 : w5.cell? ⟨w.heap.size, 0, none⟩ = some (.slice D ds.length cd) := pw_cell_below hb5 cc4
  have BB5 : Hid (Below w.heap.size w w5) := below_then BB4.out BB4.out.size hb5
  clear hb5 HD4 HA4 HB4 HX4 HX'4 BB4 cc4
  clear HX5 HX'5 lt hcutX
  go_wp2_with fail
  refine (Before_r true ht.out HA5.out hca HB5.out hcb).mono ?_
  rintro e w6 ⟨rfl, hb6⟩
  have HD6 := Lib.hid (Kd.C_below HD5.out hb6)
  have HA6 := Lib.hid (Kd.C_below HA5.out hb6)
  have HB6 := Lib.hid (Kd.C_below HB5.out hb6)
  have cc6 : w6.cell? ⟨w.heap.size, 0, none⟩ = some (.slice D ds.length cd) := pw_cell_below hb6 cc5
  have BB6 : Hid (Below w.heap.size w w6) := below_then BB5.out BB5.out.size hb6
  clear hb6 HD5 HA5 HB5 BB5 cc5
  go_wp2_with fail
  refine (Separator_none HD6.out HA6.out HB6.out hca ba.out bb.out hp.out (by omega)).mono ?_
  rintro e w7 ⟨Y, cY, rfl, hrY, hcY, hb7⟩
  have HD7 := Lib.hid (Kd.C_below HD6.out hb7)
  have HA7 := Lib.hid (Kd.C_below HA6.out hb7)
  have HB7 := Lib.hid (Kd.C_below HB6.out hb7)
  have cc7 : w7.cell? ⟨w.heap.size, 0, none⟩ = some (.slice D ds.length cd) := pw_cell_below hb7 cc6
  have BB7 : Hid (Below w.heap.size w w7) := below_then BB6.out BB6.out.size hb7
  clear hb7 HD6 HA6 HB6 BB6 cc6
  clear hrY
  go_wp2_with fail
  go_ret
  exact ⟨rfl, BB7.out⟩

set_option maxRecDepth 100000 in
set_option maxHeartbeats 1600000 in
theorem law_keep_some_some {w : World} {D : Option Addr} {cd : Nat} {ds su sp : List Int} {A : Option Addr} {ca : Nat} {la : List Int} {B : Option Addr} {cb : Nat} {lb : List Int}
    (hd : Kd.C (Kd.int .u8) w D ds.length ds) (hcd : ds.length ≤ cd) (ha : Kd.C (Kd.int .u8) w A la.length la) (hca : la.length ≤ ca) (ba : Hid (Byt la)) (hb : Kd.C (Kd.int .u8) w B lb.length lb) (hcb : lb.length ≤ cb) (bb : Hid (Byt lb))
    (gd : ds.length ≤ 2147483647) (ga : la.length ≤ 2147483647) (gb : lb.length ≤ 2147483647) (hs : Hid (decide (cmpI lb la < 0) = false)) (hu : Hid (succI lb = some su)) (ht : Hid (decide (cmpI la lb < 0) = true)) (hp : Hid (sepI la lb = some sp)) :
    Calls Tryd.prog 3 #[.slice D ds.length cd, .slice A la.length ca, .slice B lb.length cb] w fun e w' => e = .returned (.bool true) ∧ Below w.heap.size w w' := by
  have HD0 := Lib.hid (Kd.C_alloc hd (.cells #[.slice D ds.length cd] 22))
  have HA0 := Lib.hid (Kd.C_alloc ha (.cells #[.slice D ds.length cd] 22))
  have HB0 := Lib.hid (Kd.C_alloc hb (.cells #[.slice D ds.length cd] 22))
  have BB0 : Hid (Below w.heap.size w (w.alloc (.cells #[.slice D ds.length cd] 22))) := below_alloc (Below.refl _ _) _
  clear hd ha hb
  go_enter Tryd.func3, Tryd.ntmps3
  go_wp2_with fail
  refine (Before_r false hs.out HB0.out hcb HA0.out hca).mono ?_
  rintro e w1 ⟨rfl, hb1⟩
  have HD1 := Lib.hid (Kd.C_below HD0.out hb1)
  have HA1 := Lib.hid (Kd.C_below HA0.out hb1)
  have HB1 := Lib.hid (Kd.C_below HB0.out hb1)
  have cc1 : w1.cell? ⟨w.heap.size, 0, none⟩ = some (.slice D ds.length cd) := pw_cell_below hb1 (by simp)
  have BB1 : Hid (Below w.heap.size w w1) := below_then BB0.out BB0.out.size hb1
  clear hb1 HD0 HA0 HB0 BB0
  go_wp2_with fail
  refine (Successor_some HD1.out HB1.out hcb bb.out hu.out (by omega)).mono ?_
  rintro e w2 ⟨X, cX, rfl, hrX, hcX, hb2⟩
  have HD2 := Lib.hid (Kd.C_below HD1.out hb2)
  have HA2 := Lib.hid (Kd.C_below HA1.out hb2)
  have HB2 := Lib.hid (Kd.C_below HB1.out hb2)
  have cc2 : w2.cell? ⟨w.heap.size, 0, none⟩ = some (.slice D ds.length cd) := pw_cell_below hb2 cc1
  have BB2 : Hid (Below w.heap.size w w2) := below_then BB1.out BB1.out.size hb2
  clear hb2 HD1 HA1 HB1 BB1 cc1
  have HX2 := Lib.hid hrX
  have nX : (ds ++ su).length = ds.length + su.length := by simp
  obtain ⟨X', hcutX, hrdX⟩ := cut_at (X := X) (n := (ds ++ su).length) (c := cX) (m := ds.length) (by omega)
  have HX'2 := Lib.hid (hrdX _ _ hcX hrX)
  rw [drop_pre] at HX'2
  clear hrX hrdX
  generalize (ds ++ su).length = mX at * 
  clear nX
  have lt := Lib.hid (succI_behind _ _ hu.out)
  go_wp2_with fail
  refine (ahead_true cc2 HD2.out hcd HX2.out hcX).mono ?_
  rintro e w3 ⟨rfl, hb3⟩
  have HD3 := Lib.hid (Kd.C_below HD2.out hb3)
  have HA3 := Lib.hid (Kd.C_below HA2.out hb3)
  have HB3 := Lib.hid (Kd.C_below HB2.out hb3)
  have HX3 := Lib.hid (Kd.C_below HX2.out hb3)
  have HX'3 := Lib.hid (Kd.C_below HX'2.out hb3)
  have cc3 : w3.cell? ⟨w.heap.size, 0, none⟩ = some (.slice D ds.length cd) := pw_cell_below hb3 cc2
  have BB3 : Hid (Below w.heap.size w w3) := below_then BB2.out BB2.out.size hb3
  clear hb3 HD2 HA2 HB2 HX2 HX'2 BB2 cc2
  go_wp2_with fail
  refine (Before_r false (not_before lt.out) HX'3.out (by omega) HB3.out hcb).mono ?_
  rintro e w4 ⟨rfl, hb4⟩
  have HD4 := Lib.hid (Kd.C_below HD3.out hb4)
  have HA4 := Lib.hid (Kd.C_below HA3.out hb4)
  have HB4 := Lib.hid (Kd.C_below HB3.out hb4)
  have HX4 := Lib.hid (Kd.C_below HX3.out hb4)
  have HX'4 := Lib.hid (Kd.C_below HX'3.out hb4)
  have cc4 : w4.cell? ⟨w.heap.size, 0, none⟩ = some (.slice D ds.length cd) := pw_cell_below hb4 cc3
  have BB4 : Hid (Below w.heap.size w w4) := below_then BB3.out BB3.out.size hb4
  clear hb4 HD3 HA3 HB3 HX3 HX'3 BB3 cc3
  go_wp2_with fail
  refine (Bytes_r false (not_same lt.out) HX'4.out (by omega) HB4.out hcb).mono ?_
  rintro e w5 ⟨rfl, hb5⟩
  have HD5 := Lib.hid (Kd.C_below HD4.out hb5)
  have HA5 := Lib.hid (Kd.C_below HA4.out hb5)
  have HB5 := Lib.hid (Kd.C_below HB4.out hb5)
  have HX5 := Lib.hid (Kd.C_below HX4.out hb5)
  have HX'5 := Lib.hid (Kd.C_below HX'4.out hb5)
  have cc5 : w5.cell? ⟨w.heap.size, 0, none⟩ = some (.slice D ds.length cd) := pw_cell_below hb5 cc4
  have BB5 : Hid (Below w.heap.size w w5) := below_then BB4.out BB4.out.size hb5
  clear hb5 HD4 HA4 HB4 HX4 HX'4 BB4 cc4
  clear HX5 HX'5 lt hcutX
  go_wp2_with fail
  refine (Before_r true ht.out HA5.out hca HB5.out hcb).mono ?_
  rintro e w6 ⟨rfl, hb6⟩
  have HD6 := Lib.hid (Kd.C_below HD5.out hb6)
  have HA6 := Lib.hid (Kd.C_below HA5.out hb6)
  have HB6 := Lib.hid (Kd.C_below HB5.out hb6)
  have cc6 : w6.cell? ⟨w.heap.size, 0, none⟩ = some (.slice D ds.length cd) := pw_cell_below hb6 cc5
  have BB6 : Hid (Below w.heap.size w w6) := below_then BB5.out BB5.out.size hb6
  clear hb6 HD5 HA5 HB5 BB5 cc5
  go_wp2_with fail
  refine (Separator_some HD6.out HA6.out HB6.out hca ba.out bb.out hp.out (by omega)).mono ?_
  rintro e w7 ⟨Y, cY, rfl, hrY, hcY, hb7⟩
  have HD7 := Lib.hid (Kd.C_below HD6.out hb7)
  have HA7 := Lib.hid (Kd.C_below HA6.out hb7)
  have HB7 := Lib.hid (Kd.C_below HB6.out hb7)
  have cc7 : w7.cell? ⟨w.heap.size, 0, none⟩ = some (.slice D ds.length cd) := pw_cell_below hb7 cc6
  have BB7 : Hid (Below w.heap.size w w7) := below_then BB6.out BB6.out.size hb7
  clear hb7 HD6 HA6 HB6 BB6 cc6
  have HY7 := Lib.hid hrY
  have nY : (ds ++ sp).length = ds.length + sp.length := by simp
  obtain ⟨Y', hcutY, hrdY⟩ := cut_at (X := Y) (n := (ds ++ sp).length) (c := cY) (m := ds.length) (by omega)
  have HY'7 := Lib.hid (hrdY _ _ hcY hrY)
  rw [drop_pre] at HY'7
  clear hrY hrdY
  generalize (ds ++ sp).length = mY at * 
  clear nY
  have lt1 := Lib.hid (sepI_between _ _ _ hp.out).1
  have lt2 := Lib.hid (sepI_between _ _ _ hp.out).2
  go_wp2_with fail
  refine (ahead_true cc7 HD7.out hcd HY7.out hcY).mono ?_
  rintro e w8 ⟨rfl, hb8⟩
  have HD8 := Lib.hid (Kd.C_below HD7.out hb8)
  have HA8 := Lib.hid (Kd.C_below HA7.out hb8)
  have HB8 := Lib.hid (Kd.C_below HB7.out hb8)
  have HY8 := Lib.hid (Kd.C_below HY7.out hb8)
  have HY'8 := Lib.hid (Kd.C_below HY'7.out hb8)
  have cc8 : w8.cell? ⟨w.heap.size, 0, none⟩ = some (.slice D ds.length cd) := pw_cell_below hb8 cc7
  have BB8 : Hid (Below w.heap.size w w8) := below_then BB7.out BB7.out.size hb8
  clear hb8 HD7 HA7 HB7 HY7 HY'7 BB7 cc7
  go_wp2_with fail
  refine (Before_r true (decide_eq_true lt1.out) HA8.out hca HY'8.out (by omega)).mono ?_
  rintro e w9 ⟨rfl, hb9⟩
  have HD9 := Lib.hid (Kd.C_below HD8.out hb9)
  have HA9 := Lib.hid (Kd.C_below HA8.out hb9)
  have HB9 := Lib.hid (Kd.C_below HB8.out hb9)
  have HY9 := Lib.hid (Kd.C_below HY8.out hb9)
  have HY'9 := Lib.hid (Kd.C_below HY'8.out hb9)
  have cc9 : w9.cell? ⟨w.heap.size, 0, none⟩ = some (.slice D ds.length cd) := pw_cell_below hb9 cc8
  have BB9 : Hid (Below w.heap.size w w9) := below_then BB8.out BB8.out.size hb9
  clear hb9 HD8 HA8 HB8 HY8 HY'8 BB8 cc8
  go_wp2_with fail
  refine (Before_r true (decide_eq_true lt2.out) HY'9.out (by omega) HB9.out hcb).mono ?_
  rintro e w10 ⟨rfl, hb10⟩
  have HD10 := Lib.hid (Kd.C_below HD9.out hb10)
  have HA10 := Lib.hid (Kd.C_below HA9.out hb10)
  have HB10 := Lib.hid (Kd.C_below HB9.out hb10)
  have HY10 := Lib.hid (Kd.C_below HY9.out hb10)
  have HY'10 := Lib.hid (Kd.C_below HY'9.out hb10)
  have cc10 : w10.cell? ⟨w.heap.size, 0, none⟩ = some (.slice D ds.length cd) := pw_cell_below hb10 cc9
  have BB10 : Hid (Below w.heap.size w w10) := below_then BB9.out BB9.out.size hb10
  clear hb10 HD9 HA9 HB9 HY9 HY'9 BB9 cc9
  go_wp2_with fail
  go_ret
  exact ⟨rfl, BB10.out⟩

set_option maxRecDepth 100000 in
set_option maxHeartbeats 1600000 in
theorem law_swap_none_no {w : World} {D : Option Addr} {cd : Nat} {ds : List Int} {A : Option Addr} {ca : Nat} {la : List Int} {B : Option Addr} {cb : Nat} {lb : List Int}
    (hd : Kd.C (Kd.int .u8) w D ds.length ds) (hcd : ds.length ≤ cd) (ha : Kd.C (Kd.int .u8) w A la.length la) (hca : la.length ≤ ca) (ba : Hid (Byt la)) (hb : Kd.C (Kd.int .u8) w B lb.length lb) (hcb : lb.length ≤ cb) (bb : Hid (Byt lb))
    (gd : ds.length ≤ 2147483647) (ga : la.length ≤ 2147483647) (gb : lb.length ≤ 2147483647) (hs : Hid (decide (cmpI lb la < 0) = true)) (hu : Hid (succI la = none)) (ht : Hid (decide (cmpI lb la < 0) = false)) :
    Calls Tryd.prog 3 #[.slice D ds.length cd, .slice A la.length ca, .slice B lb.length cb] w fun e w' => e = .returned (.bool true) ∧ Below w.heap.size w w' := by
  have HD0 := Lib.hid (Kd.C_alloc hd (.cells #[.slice D ds.length cd] 22))
  have HA0 := Lib.hid (Kd.C_alloc ha (.cells #[.slice D ds.length cd] 22))
  have HB0 := Lib.hid (Kd.C_alloc hb (.cells #[.slice D ds.length cd] 22))
  have BB0 : Hid (Below w.heap.size w (w.alloc (.cells #[.slice D ds.length cd] 22))) := below_alloc (Below.refl _ _) _
  clear hd ha hb
  go_enter Tryd.func3, Tryd.ntmps3
  go_wp2_with fail
  refine (Before_r true hs.out HB0.out hcb HA0.out hca).mono ?_
  rintro e w1 ⟨rfl, hb1⟩
  have HD1 := Lib.hid (Kd.C_below HD0.out hb1)
  have HA1 := Lib.hid (Kd.C_below HA0.out hb1)
  have HB1 := Lib.hid (Kd.C_below HB0.out hb1)
  have cc1 : w1.cell? ⟨w.heap.size, 0, none⟩ = some (.slice D ds.length cd) := pw_cell_below hb1 (by simp)
  have BB1 : Hid (Below w.heap.size w w1) := below_then BB0.out BB0.out.size hb1
  clear hb1 HD0 HA0 HB0 BB0
  go_wp2_with fail
  refine (Successor_none HD1.out HA1.out hca ba.out hu.out (by omega)).mono ?_
  rintro e w2 ⟨X, cX, rfl, hrX, hcX, hb2⟩
  have HD2 := Lib.hid (Kd.C_below HD1.out hb2)
  have HA2 := Lib.hid (Kd.C_below HA1.out hb2)
  have HB2 := Lib.hid (Kd.C_below HB1.out hb2)
  have cc2 : w2.cell? ⟨w.heap.size, 0, none⟩ = some (.slice D ds.length cd) := pw_cell_below hb2 cc1
  have BB2 : Hid (Below w.heap.size w w2) := below_then BB1.out BB1.out.size hb2
  clear hb2 HD1 HA1 HB1 BB1 cc1
  clear hrX
  go_wp2_with fail
  refine (Before_r false ht.out HB2.out hcb HA2.out hca).mono ?_
  rintro e w3 ⟨rfl, hb3⟩
  have HD3 := Lib.hid (Kd.C_below HD2.out hb3)
  have HA3 := Lib.hid (Kd.C_below HA2.out hb3)
  have HB3 := Lib.hid (Kd.C_below HB2.out hb3)
  have cc3 : w3.cell? ⟨w.heap.size, 0, none⟩ = some (.slice D ds.length cd) := pw_cell_below hb3 cc2
  have BB3 : Hid (Below w.heap.size w w3) := below_then BB2.out BB2.out.size hb3
  clear hb3 HD2 HA2 HB2 BB2 cc2
  go_wp2_with fail
  go_ret
  exact ⟨rfl, BB3.out⟩

set_option maxRecDepth 100000 in
set_option maxHeartbeats 1600000 in
theorem law_swap_none_none {w : World} {D : Option Addr} {cd : Nat} {ds : List Int} {A : Option Addr} {ca : Nat} {la : List Int} {B : Option Addr} {cb : Nat} {lb : List Int}
    (hd : Kd.C (Kd.int .u8) w D ds.length ds) (hcd : ds.length ≤ cd) (ha : Kd.C (Kd.int .u8) w A la.length la) (hca : la.length ≤ ca) (ba : Hid (Byt la)) (hb : Kd.C (Kd.int .u8) w B lb.length lb) (hcb : lb.length ≤ cb) (bb : Hid (Byt lb))
    (gd : ds.length ≤ 2147483647) (ga : la.length ≤ 2147483647) (gb : lb.length ≤ 2147483647) (hs : Hid (decide (cmpI lb la < 0) = true)) (hu : Hid (succI la = none)) (ht : Hid (decide (cmpI lb la < 0) = true)) (hp : Hid (sepI lb la = none)) :
    Calls Tryd.prog 3 #[.slice D ds.length cd, .slice A la.length ca, .slice B lb.length cb] w fun e w' => e = .returned (.bool true) ∧ Below w.heap.size w w' := by
  have HD0 := Lib.hid (Kd.C_alloc hd (.cells #[.slice D ds.length cd] 22))
  have HA0 := Lib.hid (Kd.C_alloc ha (.cells #[.slice D ds.length cd] 22))
  have HB0 := Lib.hid (Kd.C_alloc hb (.cells #[.slice D ds.length cd] 22))
  have BB0 : Hid (Below w.heap.size w (w.alloc (.cells #[.slice D ds.length cd] 22))) := below_alloc (Below.refl _ _) _
  clear hd ha hb
  go_enter Tryd.func3, Tryd.ntmps3
  go_wp2_with fail
  refine (Before_r true hs.out HB0.out hcb HA0.out hca).mono ?_
  rintro e w1 ⟨rfl, hb1⟩
  have HD1 := Lib.hid (Kd.C_below HD0.out hb1)
  have HA1 := Lib.hid (Kd.C_below HA0.out hb1)
  have HB1 := Lib.hid (Kd.C_below HB0.out hb1)
  have cc1 : w1.cell? ⟨w.heap.size, 0, none⟩ = some (.slice D ds.length cd) := pw_cell_below hb1 (by simp)
  have BB1 : Hid (Below w.heap.size w w1) := below_then BB0.out BB0.out.size hb1
  clear hb1 HD0 HA0 HB0 BB0
  go_wp2_with fail
  refine (Successor_none HD1.out HA1.out hca ba.out hu.out (by omega)).mono ?_
  rintro e w2 ⟨X, cX, rfl, hrX, hcX, hb2⟩
  have HD2 := Lib.hid (Kd.C_below HD1.out hb2)
  have HA2 := Lib.hid (Kd.C_below HA1.out hb2)
  have HB2 := Lib.hid (Kd.C_below HB1.out hb2)
  have cc2 : w2.cell? ⟨w.heap.size, 0, none⟩ = some (.slice D ds.length cd) := pw_cell_below hb2 cc1
  have BB2 : Hid (Below w.heap.size w w2) := below_then BB1.out BB1.out.size hb2
  clear hb2 HD1 HA1 HB1 BB1 cc1
  clear hrX
  go_wp2_with fail
  refine (Before_r true ht.out HB2.out hcb HA2.out hca).mono ?_
  rintro e w3 ⟨rfl, hb3⟩
  have HD3 := Lib.hid (Kd.C_below HD2.out hb3)
  have HA3 := Lib.hid (Kd.C_below HA2.out hb3)
  have HB3 := Lib.hid (Kd.C_below HB2.out hb3)
  have cc3 : w3.cell? ⟨w.heap.size, 0, none⟩ = some (.slice D ds.length cd) := pw_cell_below hb3 cc2
  have BB3 : Hid (Below w.heap.size w w3) := below_then BB2.out BB2.out.size hb3
  clear hb3 HD2 HA2 HB2 BB2 cc2
  go_wp2_with fail
  refine (Separator_none HD3.out HB3.out HA3.out hcb bb.out ba.out hp.out (by omega)).mono ?_
  rintro e w4 ⟨Y, cY, rfl, hrY, hcY, hb4⟩
  have HD4 := Lib.hid (Kd.C_below HD3.out hb4)
  have HA4 := Lib.hid (Kd.C_below HA3.out hb4)
  have HB4 := Lib.hid (Kd.C_below HB3.out hb4)
  have cc4 : w4.cell? ⟨w.heap.size, 0, none⟩ = some (.slice D ds.length cd) := pw_cell_below hb4 cc3
  have BB4 : Hid (Below w.heap.size w w4) := below_then BB3.out BB3.out.size hb4
  clear hb4 HD3 HA3 HB3 BB3 cc3
  clear hrY
  go_wp2_with fail
  go_ret
  exact ⟨rfl, BB4.out⟩

set_option maxRecDepth 100000 in
set_option maxHeartbeats 1600000 in
theorem law_swap_none_some {w : World} {D : Option Addr} {cd : Nat} {ds sp : List Int} {A : Option Addr} {ca : Nat} {la : List Int} {B : Option Addr} {cb : Nat} {lb : List Int}
    (hd : Kd.C (Kd.int .u8) w D ds.length ds) (hcd : ds.length ≤ cd) (ha : Kd.C (Kd.int .u8) w A la.length la) (hca : la.length ≤ ca) (ba : Hid (Byt la)) (hb : Kd.C (Kd.int .u8) w B lb.length lb) (hcb : lb.length ≤ cb) (bb : Hid (Byt lb))
    (gd : ds.length ≤ 2147483647) (ga : la.length ≤ 2147483647) (gb : lb.length ≤ 2147483647) (hs : Hid (decide (cmpI lb la < 0) = true)) (hu : Hid (succI la = none)) (ht : Hid (decide (cmpI lb la < 0) = true)) (hp : Hid (sepI lb la = some sp)) :
    Calls Tryd.prog 3 #[.slice D ds.length cd, .slice A la.length ca, .slice B lb.length cb] w fun e w' => e = .returned (.bool true) ∧ Below w.heap.size w w' := by
  have HD0 := Lib.hid (Kd.C_alloc hd (.cells #[.slice D ds.length cd] 22))
  have HA0 := Lib.hid (Kd.C_alloc ha (.cells #[.slice D ds.length cd] 22))
  have HB0 := Lib.hid (Kd.C_alloc hb (.cells #[.slice D ds.length cd] 22))
  have BB0 : Hid (Below w.heap.size w (w.alloc (.cells #[.slice D ds.length cd] 22))) := below_alloc (Below.refl _ _) _
  clear hd ha hb
  go_enter Tryd.func3, Tryd.ntmps3
  go_wp2_with fail
  refine (Before_r true hs.out HB0.out hcb HA0.out hca).mono ?_
  rintro e w1 ⟨rfl, hb1⟩
  have HD1 := Lib.hid (Kd.C_below HD0.out hb1)
  have HA1 := Lib.hid (Kd.C_below HA0.out hb1)
  have HB1 := Lib.hid (Kd.C_below HB0.out hb1)
  have cc1 : w1.cell? ⟨w.heap.size, 0, none⟩ = some (.slice D ds.length cd) := pw_cell_below hb1 (by simp)
  have BB1 : Hid (Below w.heap.size w w1) := below_then BB0.out BB0.out.size hb1
  clear hb1 HD0 HA0 HB0 BB0
  go_wp2_with fail
  refine (Successor_none HD1.out HA1.out hca ba.out hu.out (by omega)).mono ?_
  rintro e w2 ⟨X, cX, rfl, hrX, hcX, hb2⟩
  have HD2 := Lib.hid (Kd.C_below HD1.out hb2)
  have HA2 := Lib.hid (Kd.C_below HA1.out hb2)
  have HB2 := Lib.hid (Kd.C_below HB1.out hb2)
  have cc2 : w2.cell? ⟨w.heap.size, 0, none⟩ = some (.slice D ds.length cd) := pw_cell_below hb2 cc1
  have BB2 : Hid (Below w.heap.size w w2) := below_then BB1.out BB1.out.size hb2
  clear hb2 HD1 HA1 HB1 BB1 cc1
  clear hrX
  go_wp2_with fail
  refine (Before_r true ht.out HB2.out hcb HA2.out hca).mono ?_
  rintro e w3 ⟨rfl, hb3⟩
  have HD3 := Lib.hid (Kd.C_below HD2.out hb3)
  have HA3 := Lib.hid (Kd.C_below HA2.out hb3)
  have HB3 := Lib.hid (Kd.C_below HB2.out hb3)
  have cc3 : w3.cell? ⟨w.heap.size, 0, none⟩ = some (.slice D ds.length cd) := pw_cell_below hb3 cc2
  have BB3 : Hid (Below w.heap.size w w3) := below_then BB2.out BB2.out.size hb3
  clear hb3 HD2 HA2 HB2 BB2 cc2
  go_wp2_with fail
  refine (Separator_some HD3.out HB3.out HA3.out hcb bb.out ba.out hp.out (by omega)).mono ?_
  rintro e w4 ⟨Y, cY, rfl, hrY, hcY, hb4⟩
  have HD4 := Lib.hid (Kd.C_below HD3.out hb4)
  have HA4 := Lib.hid (Kd.C_below HA3.out hb4)
  have HB4 := Lib.hid (Kd.C_below HB3.out hb4)
  have cc4 : w4.cell? ⟨w.heap.size, 0, none⟩ = some (.slice D ds.length cd) := pw_cell_below hb4 cc3
  have BB4 : Hid (Below w.heap.size w w4) := below_then BB3.out BB3.out.size hb4
  clear hb4 HD3 HA3 HB3 BB3 cc3
  have HY4 := Lib.hid hrY
  have nY : (ds ++ sp).length = ds.length + sp.length := by simp
  obtain ⟨Y', hcutY, hrdY⟩ := cut_at (X := Y) (n := (ds ++ sp).length) (c := cY) (m := ds.length) (by omega)
  have HY'4 := Lib.hid (hrdY _ _ hcY hrY)
  rw [drop_pre] at HY'4
  clear hrY hrdY
  generalize (ds ++ sp).length = mY at * 
  clear nY
  have lt1 := Lib.hid (sepI_between _ _ _ hp.out).1
  have lt2 := Lib.hid (sepI_between _ _ _ hp.out).2
  go_wp2_with fail
  refine (ahead_true cc4 HD4.out hcd HY4.out hcY).mono ?_
  rintro e w5 ⟨rfl, hb5⟩
  have HD5 := Lib.hid (Kd.C_below HD4.out hb5)
  have HA5 := Lib.hid (Kd.C_below HA4.out hb5)
  have HB5 := Lib.hid (Kd.C_below HB4.out hb5)
  have HY5 := Lib.hid (Kd.C_below HY4.out hb5)
  have HY'5 := Lib.hid (Kd.C_below HY'4.out hb5)
  have cc5 : w5.cell? ⟨w.heap.size, 0, none⟩ = some (.slice D ds.length cd) := pw_cell_below hb5 cc4
  have BB5 : Hid (Below w.heap.size w w5) := below_then BB4.out BB4.out.size hb5
  clear hb5 HD4 HA4 HB4 HY4 HY'4 BB4 cc4
  go_wp2_with fail
  refine (Before_r true (decide_eq_true lt1.out) HB5.out hcb HY'5.out (by omega)).mono ?_
  rintro e w6 ⟨rfl, hb6⟩
  have HD6 := Lib.hid (Kd.C_below HD5.out hb6)
  have HA6 := Lib.hid (Kd.C_below HA5.out hb6)
  have HB6 := Lib.hid (Kd.C_below HB5.out hb6)
  have HY6 := Lib.hid (Kd.C_below HY5.out hb6)
  have HY'6 := Lib.hid (Kd.C_below HY'5.out hb6)
  have cc6 : w6.cell? ⟨w.heap.size, 0, none⟩ = some (.slice D ds.length cd) := pw_cell_below hb6 cc5
  have BB6 : Hid (Below w.heap.size w w6) := below_then BB5.out BB5.out.size hb6
  clear hb6 HD5 HA5 HB5 HY5 HY'5 BB5 cc5
  go_wp2_with fail
  refine (Before_r true (decide_eq_true lt2.out) HY'6.out (by omega) HA6.out hca).mono ?_
  rintro e w7 ⟨rfl, hb7⟩
  have HD7 := Lib.hid (Kd.C_below HD6.out hb7)
  have HA7 := Lib.hid (Kd.C_below HA6.out hb7)
  have HB7 := Lib.hid (Kd.C_below HB6.out hb7)
  have HY7 := Lib.hid (Kd.C_below HY6.out hb7)
  have HY'7 := Lib.hid (Kd.C_below HY'6.out hb7)
  have cc7 : w7.cell? ⟨w.heap.size, 0, none⟩ = some (.slice D ds.length cd) := pw_cell_below hb7 cc6
  have BB7 : Hid (Below w.heap.size w w7) := below_then BB6.out BB6.out.size hb7
  clear hb7 HD6 HA6 HB6 HY6 HY'6 BB6 cc6
  go_wp2_with fail
  go_ret
  exact ⟨rfl, BB7.out⟩

set_option maxRecDepth 100000 in
set_option maxHeartbeats 1600000 in
theorem law_swap_some_no {w : World} {D : Option Addr} {cd : Nat} {ds su : List Int} {A : Option Addr} {ca : Nat} {la : List Int} {B : Option Addr} {cb : Nat} {lb : List Int}
    (hd : Kd.C (Kd.int .u8) w D ds.length ds) (hcd : ds.length ≤ cd) (ha : Kd.C (Kd.int .u8) w A la.length la) (hca : la.length ≤ ca) (ba : Hid (Byt la)) (hb : Kd.C (Kd.int .u8) w B lb.length lb) (hcb : lb.length ≤ cb) (bb : Hid (Byt lb))
    (gd : ds.length ≤ 2147483647) (ga : la.length ≤ 2147483647) (gb : lb.length ≤ 2147483647) (hs : Hid (decide (cmpI lb la < 0) = true)) (hu : Hid (succI la = some su)) (ht : Hid (decide (cmpI lb la < 0) = false)) :
    Calls Tryd.prog 3 #[.slice D ds.length cd, .slice A la.length ca, .slice B lb.length cb] w fun e w' => e = .returned (.bool true) ∧ Below w.heap.size w w' := by
  have HD0 := Lib.hid (Kd.C_alloc hd (.cells #[.slice D ds.length cd] 22))
  have HA0 := Lib.hid (Kd.C_alloc ha (.cells #[.slice D ds.length cd] 22))
  have HB0 := Lib.hid (Kd.C_alloc hb (.cells #[.slice D ds.length cd] 22))
  have BB0 : Hid (Below w.heap.size w (w.alloc (.cells #[.slice D ds.length cd] 22))) := below_alloc (Below.refl _ _) _
  clear hd ha hb
  go_enter Tryd.func3, Tryd.ntmps3
  go_wp2_with fail
  refine (Before_r true hs.out HB0.out hcb HA0.out hca).mono ?_
  rintro e w1 ⟨rfl, hb1⟩
  have HD1 := Lib.hid (Kd.C_below HD0.out hb1)
  have HA1 := Lib.hid (Kd.C_below HA0.out hb1)
  have HB1 := Lib.hid (Kd.C_below HB0.out hb1)
  have cc1 : w1.cell? ⟨w.heap.size, 0, none⟩ = some (.slice D ds.length cd) := pw_cell_below hb1 (by simp)
  have BB1 : Hid (Below w.heap.size w w1) := below_then BB0.out BB0.out.size hb1
  clear hb1 HD0 HA0 HB0 BB0
  go_wp2_with fail
  refine (Successor_some HD1.out HA1.out hca ba.out hu.out (by omega)).mono ?_
  rintro e w2 ⟨X, cX, rfl, hrX, hcX, hb2⟩
  have HD2 := Lib.hid (Kd.C_below HD1.out hb2)
  have HA2 := Lib.hid (Kd.C_below HA1.out hb2)
  have HB2 := Lib.hid (Kd.C_below HB1.out hb2)
  have cc2 : w2.cell? ⟨w.heap.size, 0, none⟩ = some (.slice D ds.length cd) := pw_cell_below hb2 cc1
  have BB2 : Hid (Below w.heap.size w w2) := below_then BB1.out BB1.out.size hb2
  clear hb2 HD1 HA1 HB1 BB1 cc1
  have HX2 := Lib.hid hrX
  have nX : (ds ++ su).length = ds.length + su.length := by simp
  obtain ⟨X', hcutX, hrdX⟩ := cut_at (X := X) (n := (ds ++ su).length) (c := cX) (m := ds.length) (by omega)
  have HX'2 := Lib.hid (hrdX _ _ hcX hrX)
  rw [drop_pre] at HX'2
  clear hrX hrdX
  generalize (ds ++ su).length = mX at * 
  clear nX
  have lt := Lib.hid (succI_behind _ _ hu.out)
  go_wp2_with fail
  refine (ahead_true cc2 HD2.out hcd HX2.out hcX).mono ?_
  rintro e w3 ⟨rfl, hb3⟩
  have HD3 := Lib.hid (Kd.C_below HD2.out hb3)
  have HA3 := Lib.hid (Kd.C_below HA2.out hb3)
  have HB3 := Lib.hid (Kd.C_below HB2.out hb3)
  have HX3 := Lib.hid (Kd.C_below HX2.out hb3)
  have HX'3 := Lib.hid (Kd.C_below HX'2.out hb3)
  have cc3 : w3.cell? ⟨w.heap.size, 0, none⟩ = some (.slice D ds.length cd) := pw_cell_below hb3 cc2
  have BB3 : Hid (Below w.heap.size w w3) := below_then BB2.out BB2.out.size hb3
  clear hb3 HD2 HA2 HB2 HX2 HX'2 BB2 cc2
  go_wp2_with fail
  refine (Before_r false (not_before lt.out) HX'3.out (by omega) HA3.out hca).mono ?_
  rintro e w4 ⟨rfl, hb4⟩
  have HD4 := Lib.hid (Kd.C_below HD3.out hb4)
  have HA4 := Lib.hid (Kd.C_below HA3.out hb4)
  have HB4 := Lib.hid (Kd.C_below HB3.out hb4)
  have HX4 := Lib.hid (Kd.C_below HX3.out hb4)
  have HX'4 := Lib.hid (Kd.C_below HX'3.out hb4)
  have cc4 : w4.cell? ⟨w.heap.size, 0, none⟩ = some (.slice D ds.length cd) := pw_cell_below hb4 cc3
  have BB4 : Hid (Below w.heap.size w w4) := below_then BB3.out BB3.out.size hb4
  clear hb4 HD3 HA3 HB3 HX3 HX'3 BB3 cc3
  go_wp2_with fail
  refine (Bytes_r false (not_same lt.out) HX'4.out (by omega) HA4.out hca).mono ?_
  rintro e w5 ⟨rfl, hb5⟩
  have HD5 := Lib.hid (Kd.C_below HD4.out hb5)
  have HA5 := Lib.hid (Kd.C_below HA4.out hb5)
  have HB5 := Lib.hid (Kd.C_below HB4.out hb5)
  have HX5 := Lib.hid (Kd.C_below HX4.out hb5)
  have HX'5 := Lib.hid (Kd.C_below HX'4.out hb5)
  have cc5 : w5.cell? ⟨w.heap.size, 0, none⟩ = some (.slice D ds.length cd) := pw_cell_below hb5 cc4
  have BB5 : Hid (Below w.heap.size w w5) := below_then BB4.out BB4.out.size hb5
  clear hb5 HD4 HA4 HB4 HX4 HX'4 BB4 cc4
  clear HX5 HX'5 lt hcutX
  go_wp2_with fail
  refine (Before_r false ht.out HB5.out hcb HA5.out hca).mono ?_
  rintro e w6 ⟨rfl, hb6⟩
  have HD6 := Lib.hid (Kd.C_below HD5.out hb6)
  have HA6 := Lib.hid (Kd.C_below HA5.out hb6)
  have HB6 := Lib.hid (Kd.C_below HB5.out hb6)
  have cc6 : w6.cell? ⟨w.heap.size, 0, none⟩ = some (.slice D ds.length cd) := pw_cell_below hb6 cc5
  have BB6 : Hid (Below w.heap.size w w6) := below_then BB5.out BB5.out.size hb6
  clear hb6 HD5 HA5 HB5 BB5 cc5
  go_wp2_with fail
  go_ret
  exact ⟨rfl, BB6.out⟩

set_option maxRecDepth 100000 in
set_option maxHeartbeats 1600000 in
theorem law_swap_some_none {w : World} {D : Option Addr} {cd : Nat} {ds su : List Int} {A : Option Addr} {ca : Nat} {la : List Int} {B : Option Addr} {cb : Nat} {lb : List Int}
    (hd : Kd.C (Kd.int .u8) w D ds.length ds) (hcd : ds.length ≤ cd) (ha : Kd.C (Kd.int .u8) w A la.length la) (hca : la.length ≤ ca) (ba : Hid (Byt la)) (hb : Kd.C (Kd.int .u8) w B lb.length lb) (hcb : lb.length ≤ cb) (bb : Hid (Byt lb))
    (gd : ds.length ≤ 2147483647) (ga : la.length ≤ 2147483647) (gb : lb.length ≤ 2147483647) (hs : Hid (decide (cmpI lb la < 0) = true)) (hu : Hid (succI la = some su)) (ht : Hid (decide (cmpI lb la < 0) = true)) (hp : Hid (sepI lb la = none)) :
    Calls Tryd.prog 3 #[.slice D ds.length cd, .slice A la.length ca, .slice B lb.length cb] w fun e w' => e = .returned (.bool true) ∧ Below w.heap.size w w' := by
  have HD0 := Lib.hid (Kd.C_alloc hd (.cells #[.slice D ds.length cd] 22))
  have HA0 := Lib.hid (Kd.C_alloc ha (.cells #[.slice D ds.length cd] 22))
  have HB0 := Lib.hid (Kd.C_alloc hb (.cells #[.slice D ds.length cd] 22))
  have BB0 : Hid (Below w.heap.size w (w.alloc (.cells #[.slice D ds.length cd] 22))) := below_alloc (Below.refl _ _) _
  clear hd ha hb
  go_enter Tryd.func3, Tryd.ntmps3
  go_wp2_with fail
  refine (Before_r true hs.out HB0.out hcb HA0.out hca).mono ?_
  rintro e w1 ⟨rfl, hb1⟩
  have HD1 := Lib.hid (Kd.C_below HD0.out hb1)
  have HA1 := Lib.hid (Kd.C_below HA0.out hb1)
  have HB1 := Lib.hid (Kd.C_below HB0.out hb1)
  have cc1 : w1.cell? ⟨w.heap.size, 0, none⟩ = some (.slice D ds.length cd) := pw_cell_below hb1 (by simp)
  have BB1 : Hid (Below w.heap.size w w1) := below_then BB0.out BB0.out.size hb1
  clear hb1 HD0 HA0 HB0 BB0
  go_wp2_with fail
  refine (Successor_some HD1.out HA1.out hca ba.out hu.out (by omega)).mono ?_
  rintro e w2 ⟨X, cX, rfl, hrX, hcX, hb2⟩
  have HD2 := Lib.hid (Kd.C_below HD1.out hb2)
  have HA2 := Lib.hid (Kd.C_below HA1.out hb2)
  have HB2 := Lib.hid (Kd.C_below HB1.out hb2)
  have cc2 : w2.cell? ⟨w.heap.size, 0, none⟩ = some (.slice D ds.length cd) := pw_cell_below hb2 cc1
  have BB2 : Hid (Below w.heap.size w w2) := below_then BB1.out BB1.out.size hb2
  clear hb2 HD1 HA1 HB1 BB1 cc1
  have HX2 := Lib.hid hrX
  have nX : (ds ++ su).length = ds.length + su.length := by simp
  obtain ⟨X', hcutX, hrdX⟩ := cut_at (X := X) (n := (ds ++ su).length) (c := cX) (m := ds.length) (by omega)
  have HX'2 := Lib.hid (hrdX _ _ hcX hrX)
  rw [drop_pre] at HX'2
  clear hrX hrdX
  generalize (ds ++ su).length = mX at * 
  clear nX
  have lt := Lib.hid (succI_behind _ _ hu.out)
  go_wp2_with fail
  refine (ahead_true cc2 HD2.out hcd HX2.out hcX).mono ?_
  rintro e w3 ⟨rfl, hb3⟩
  have HD3 := Lib.hid (Kd.C_below HD2.out hb3)
  have HA3 := Lib.hid (Kd.C_below HA2.out hb3)
  have HB3 := Lib.hid (Kd.C_below HB2.out hb3)
  have HX3 := Lib.hid (Kd.C_below HX2.out hb3)
  have HX'3 := Lib.hid (Kd.C_below HX'2.out hb3)
  have cc3 : w3.cell? ⟨w.heap.size, 0, none⟩ = some (.slice D ds.length cd) := pw_cell_below hb3 cc2
  have BB3 : Hid (Below w.heap.size w w3) := below_then BB2.out BB2.out.size hb3
  clear hb3 HD2 HA2 HB2 HX2 HX'2 BB2 cc2
  go_wp2_with fail
  refine (Before_r false (not_before lt.out) HX'3.out (by omega) HA3.out hca).mono ?_
  rintro e w4 ⟨rfl, hb4⟩
  have HD4 := Lib.hid (Kd.C_below HD3.out hb4)
  have HA4 := Lib.hid (Kd.C_below HA3.out hb4)
  have HB4 := Lib.hid (Kd.C_below HB3.out hb4)
  have HX4 := Lib.hid (Kd.C_below HX3.out hb4)
  have HX'4 := Lib.hid (Kd.C_below HX'3.out hb4)
  have cc4 : w4.cell? ⟨w.heap.size, 0, none⟩ = some (.slice D ds.length cd) := pw_cell_below hb4 cc3
  have BB4 : Hid (Below w.heap.size w w4) := below_then BB3.out BB3.out.size hb4
  clear hb4 HD3 HA3 HB3 HX3 HX'3 BB3 cc3
  go_wp2_with fail
  refine (Bytes_r false (not_same lt.out) HX'4.out (by omega) HA4.out hca).mono ?_
  rintro e w5 ⟨rfl, hb5⟩
  have HD5 := Lib.hid (Kd.C_below HD4.out hb5)
  have HA5 := Lib.hid (Kd.C_below HA4.out hb5)
  have HB5 := Lib.hid (Kd.C_below HB4.out hb5)
  have HX5 := Lib.hid (Kd.C_below HX4.out hb5)
  have HX'5 := Lib.hid (Kd.C_below HX'4.out hb5)
  have cc5 : w5.cell? ⟨w.heap.size, 0, none⟩ = some (.slice D ds.length cd) := pw_cell_below hb5 cc4
  have BB5 : Hid (Below w.heap.size w w5) := below_then BB4.out BB4.out.size hb5
  clear hb5 HD4 HA4 HB4 HX4 HX'4 BB4 cc4
  clear HX5 HX'5 lt hcutX
  go_wp2_with fail
  refine (Before_r true ht.out HB5.out hcb HA5.out hca).mono ?_
  rintro e w6 ⟨rfl, hb6⟩
  have HD6 := Lib.hid (Kd.C_below HD5.out hb6)
  have HA6 := Lib.hid (Kd.C_below HA5.out hb6)
  have HB6 := Lib.hid (Kd.C_below HB5.out hb6)
  have cc6 : w6.cell? ⟨w.heap.size, 0, none⟩ = some (.slice D ds.length cd) := pw_cell_below hb6 cc5
  have BB6 : Hid (Below w.heap.size w w6) := below_then BB5.out BB5.out.size hb6
  clear hb6 HD5 HA5 HB5 BB5 cc5
  go_wp2_with fail
  refine (Separator_none HD6.out HB6.out HA6.out hcb bb.out ba.out hp.out (by omega)).mono ?_
  rintro e w7 ⟨Y, cY, rfl, hrY, hcY, hb7⟩
  have HD7 := Lib.hid (Kd.C_below HD6.out hb7)
  have HA7 := Lib.hid (Kd.C_below HA6.out hb7)
  have HB7 := Lib.hid (Kd.C_below HB6.out hb7)
  have cc7 : w7.cell? ⟨w.heap.size, 0, none⟩ = some (.slice D ds.length cd) := pw_cell_below hb7 cc6
  have BB7 : Hid (Below w.heap.size w w7) := below_then BB6.out BB6.out.size hb7
  clear hb7 HD6 HA6 HB6 BB6 cc6
  clear hrY
  go_wp2_with fail
  go_ret
  exact ⟨rfl, BB7.out⟩

set_option maxRecDepth 100000 in
set_option maxHeartbeats 1600000 in
theorem law_swap_some_some {w : World} {D : Option Addr} {cd : Nat} {ds su sp : List Int} {A : Option Addr} {ca : Nat} {la : List Int} {B : Option Addr} {cb : Nat} {lb : List Int}
    (hd : Kd.C (Kd.int .u8) w D ds.length ds) (hcd : ds.length ≤ cd) (ha : Kd.C (Kd.int .u8) w A la.length la) (hca : la.length ≤ ca) (ba : Hid (Byt la)) (hb : Kd.C (Kd.int .u8) w B lb.length lb) (hcb : lb.length ≤ cb) (bb : Hid (Byt lb))
    (gd : ds.length ≤ 2147483647) (ga : la.length ≤ 2147483647) (gb : lb.length ≤ 2147483647) (hs : Hid (decide (cmpI lb la < 0) = true)) (hu : Hid (succI la = some su)) (ht : Hid (decide (cmpI lb la < 0) = true)) (hp : Hid (sepI lb la = some sp)) :
    Calls Tryd.prog 3 #[.slice D ds.length cd, .slice A la.length ca, .slice B lb.length cb] w fun e w' => e = .returned (.bool true) ∧ Below w.heap.size w w' := by
  have HD0 := Lib.hid (Kd.C_alloc hd (.cells #[.slice D ds.length cd] 22))
  have HA0 := Lib.hid (Kd.C_alloc ha (.cells #[.slice D ds.length cd] 22))
  have HB0 := Lib.hid (Kd.C_alloc hb (.cells #[.slice D ds.length cd] 22))
  have BB0 : Hid (Below w.heap.size w (w.alloc (.cells #[.slice D ds.length cd] 22))) := below_alloc (Below.refl _ _) _
  clear hd ha hb
  go_enter Tryd.func3, Tryd.ntmps3
  go_wp2_with fail
  refine (Before_r true hs.out HB0.out hcb HA0.out hca).mono ?_
  rintro e w1 ⟨rfl, hb1⟩
  have HD1 := Lib.hid (Kd.C_below HD0.out hb1)
  have HA1 := Lib.hid (Kd.C_below HA0.out hb1)
  have HB1 := Lib.hid (Kd.C_below HB0.out hb1)
  have cc1 : w1.cell? ⟨w.heap.size, 0, none⟩ = some (.slice D ds.length cd) := pw_cell_below hb1 (by simp)
  have BB1 : Hid (Below w.heap.size w w1) := below_then BB0.out BB0.out.size hb1
  clear hb1 HD0 HA0 HB0 BB0
  go_wp2_with fail
  refine (Successor_some HD1.out HA1.out hca ba.out hu.out (by omega)).mono ?_
  rintro e w2 ⟨X, cX, rfl, hrX, hcX, hb2⟩
  have HD2 := Lib.hid (Kd.C_below HD1.out hb2)
  have HA2 := Lib.hid (Kd.C_below HA1.out hb2)
  have HB2 := Lib.hid (Kd.C_below HB1.out hb2)
  have cc2 : w2.cell? ⟨w.heap.size, 0, none⟩ = some (.slice D ds.length cd) := pw_cell_below hb2 cc1
  have BB2 : Hid (Below w.heap.size w w2) := below_then BB1.out BB1.out.size hb2
  clear hb2 HD1 HA1 HB1 BB1 cc1
  have HX2 := Lib.hid hrX
  have nX : (ds ++ su).length = ds.length + su.length := by simp
  obtain ⟨X', hcutX, hrdX⟩ := cut_at (X := X) (n := (ds ++ su).length) (c := cX) (m := ds.length) (by omega)
  have HX'2 := Lib.hid (hrdX _ _ hcX hrX)
  rw [drop_pre] at HX'2
  clear hrX hrdX
  generalize (ds ++ su).length = mX at * 
  clear nX
  have lt := Lib.hid (succI_behind _ _ hu.out)
  go_wp2_with fail
  refine (ahead_true cc2 HD2.out hcd HX2.out hcX).mono ?_
  rintro e w3 ⟨rfl, hb3⟩
  have HD3 := Lib.hid (Kd.C_below HD2.out hb3)
  have HA3 := Lib.hid (Kd.C_below HA2.out hb3)
  have HB3 := Lib.hid (Kd.C_below HB2.out hb3)
  have HX3 := Lib.hid (Kd.C_below HX2.out hb3)
  have HX'3 := Lib.hid (Kd.C_below HX'2.out hb3)
  have cc3 : w3.cell? ⟨w.heap.size, 0, none⟩ = some (.slice D ds.length cd) := pw_cell_below hb3 cc2
  have BB3 : Hid (Below w.heap.size w w3) := below_then BB2.out BB2.out.size hb3
  clear hb3 HD2 HA2 HB2 HX2 HX'2 BB2 cc2
  go_wp2_with fail
  refine (Before_r false (not_before lt.out) HX'3.out (by omega) HA3.out hca).mono ?_
  rintro e w4 ⟨rfl, hb4⟩
  have HD4 := Lib.hid (Kd.C_below HD3.out hb4)
  have HA4 := Lib.hid (Kd.C_below HA3.out hb4)
  have HB4 := Lib.hid (Kd.C_below HB3.out hb4)
  have HX4 := Lib.hid (Kd.C_below HX3.out hb4)
  have HX'4 := Lib.hid (Kd.C_below HX'3.out hb4)
  have cc4 : w4.cell? ⟨w.heap.size, 0, none⟩ = some (.slice D ds.length cd) := pw_cell_below hb4 cc3
  have BB4 : Hid (Below w.heap.size w w4) := below_then BB3.out BB3.out.size hb4
  clear hb4 HD3 HA3 HB3 HX3 HX'3 BB3 cc3
  go_wp2_with fail
  refine (Bytes_r false (not_same lt.out) HX'4.out (by omega) HA4.out hca).mono ?_
  rintro e w5 ⟨rfl, hb5⟩
  have HD5 := Lib.hid (Kd.C_below HD4.out hb5)
  have HA5 := Lib.hid (Kd.C_below HA4.out hb5)
  have HB5 := Lib.hid (Kd.C_below HB4.out hb5)
  have HX5 := Lib.hid (Kd.C_below HX4.out hb5)
  have HX'5 := Lib.hid (Kd.C_below HX'4.out hb5)
  have cc5 : w5.cell? ⟨w.heap.size, 0, none⟩ = some (.slice D ds.length cd) := pw_cell_below hb5 cc4
  have BB5 : Hid (Below w.heap.size w w5) := below_then BB4.out BB4.out.size hb5
  clear hb5 HD4 HA4 HB4 HX4 HX'4 BB4 cc4
  clear HX5 HX'5 lt hcutX
  go_wp2_with fail
  refine (Before_r true ht.out HB5.out hcb HA5.out hca).mono ?_
  rintro e w6 ⟨rfl, hb6⟩
  have HD6 := Lib.hid (Kd.C_below HD5.out hb6)
  have HA6 := Lib.hid (Kd.C_below HA5.out hb6)
  have HB6 := Lib.hid (Kd.C_below HB5.out hb6)
  have cc6 : w6.cell? ⟨w.heap.size, 0, none⟩ = some (.slice D ds.length cd) := pw_cell_below hb6 cc5
  have BB6 : Hid (Below w.heap.size w w6) := below_then BB5.out BB5.out.size hb6
  clear hb6 HD5 HA5 HB5 BB5 cc5
  go_wp2_with fail
  refine (Separator_some HD6.out HB6.out HA6.out hcb bb.out ba.out hp.out (by omega)).mono ?_
  rintro e w7 ⟨Y, cY, rfl, hrY, hcY, hb7⟩
  have HD7 := Lib.hid (Kd.C_below HD6.out hb7)
  have HA7 := Lib.hid (Kd.C_below HA6.out hb7)
  have HB7 := Lib.hid (Kd.C_below HB6.out hb7)
  have cc7 : w7.cell? ⟨w.heap.size, 0, none⟩ = some (.slice D ds.length cd) := pw_cell_below hb7 cc6
  have BB7 : Hid (Below w.heap.size w w7) := below_then BB6.out BB6.out.size hb7
  clear hb7 HD6 HA6 HB6 BB6 cc6
  have HY7 := Lib.hid hrY
  have nY : (ds ++ sp).length = ds.length + sp.length := by simp
  obtain ⟨Y', hcutY, hrdY⟩ := cut_at (X := Y) (n := (ds ++ sp).length) (c := cY) (m := ds.length) (by omega)
  have HY'7 := Lib.hid (hrdY _ _ hcY hrY)
  rw [drop_pre] at HY'7
  clear hrY hrdY
  generalize (ds ++ sp).length = mY at * 
  clear nY
  have lt1 := Lib.hid (sepI_between _ _ _ hp.out).1
  have lt2 := Lib.hid (sepI_between _ _ _ hp.out).2
  go_wp2_with fail
  refine (ahead_true cc7 HD7.out hcd HY7.out hcY).mono ?_
  rintro e w8 ⟨rfl, hb8⟩
  have HD8 := Lib.hid (Kd.C_below HD7.out hb8)
  have HA8 := Lib.hid (Kd.C_below HA7.out hb8)
  have HB8 := Lib.hid (Kd.C_below HB7.out hb8)
  have HY8 := Lib.hid (Kd.C_below HY7.out hb8)
  have HY'8 := Lib.hid (Kd.C_below HY'7.out hb8)
  have cc8 : w8.cell? ⟨w.heap.size, 0, none⟩ = some (.slice D ds.length cd) := pw_cell_below hb8 cc7
  have BB8 : Hid (Below w.heap.size w w8) := below_then BB7.out BB7.out.size hb8
  clear hb8 HD7 HA7 HB7 HY7 HY'7 BB7 cc7
  go_wp2_with fail
  refine (Before_r true (decide_eq_true lt1.out) HB8.out hcb HY'8.out (by omega)).mono ?_
  rintro e w9 ⟨rfl, hb9⟩
  have HD9 := Lib.hid (Kd.C_below HD8.out hb9)
  have HA9 := Lib.hid (Kd.C_below HA8.out hb9)
  have HB9 := Lib.hid (Kd.C_below HB8.out hb9)
  have HY9 := Lib.hid (Kd.C_below HY8.out hb9)
  have HY'9 := Lib.hid (Kd.C_below HY'8.out hb9)
  have cc9 : w9.cell? ⟨w.heap.size, 0, none⟩ = some (.slice D ds.length cd) := pw_cell_below hb9 cc8
  have BB9 : Hid (Below w.heap.size w w9) := below_then BB8.out BB8.out.size hb9
  clear hb9 HD8 HA8 HB8 HY8 HY'8 BB8 cc8
  go_wp2_with fail
  refine (Before_r true (decide_eq_true lt2.out) HY'9.out (by omega) HA9.out hca).mono ?_
  rintro e w10 ⟨rfl, hb10⟩
  have HD10 := Lib.hid (Kd.C_below HD9.out hb10)
  have HA10 := Lib.hid (Kd.C_below HA9.out hb10)
  have HB10 := Lib.hid (Kd.C_below HB9.out hb10)
  have HY10 := Lib.hid (Kd.C_below HY9.out hb10)
  have HY'10 := Lib.hid (Kd.C_below HY'9.out hb10)
  have cc10 : w10.cell? ⟨w.heap.size, 0, none⟩ = some (.slice D ds.length cd) := pw_cell_below hb10 cc9
  have BB10 : Hid (Below w.heap.size w w10) := below_then BB9.out BB9.out.size hb10
  clear hb10 HD9 HA9 HB9 HY9 HY'9 BB9 cc9
  go_wp2_with fail
  go_ret
  exact ⟨rfl, BB10.out⟩

end Go.Proofs.YtpdibidfjhjoeaaDoor.Sep
