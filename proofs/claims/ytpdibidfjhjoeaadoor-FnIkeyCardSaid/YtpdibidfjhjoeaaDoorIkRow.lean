/- FnIkey: the law's walk. -/
import Derived.Test.YtpdibidfjhjoeaaDoorIkFits
import Derived.Test.YtpdibidfjhjoeaaDoorIkSuccC
import Derived.Test.YtpdibidfjhjoeaaDoorOrders
namespace Go.Proofs.YtpdibidfjhjoeaaDoor.Ik
open Go.RowKit Go.Sort Go.Proofs.YtpdibidfjhjoeaaDoorW.PrintWords Go.Proofs.YtpdibidfjhjoeaaDoorW.PrintMore Go.Proofs.YtpdibidfjhjoeaaDoor.Cmp Go.Proofs.YtpdibidfjhjoeaaDoor.Run Go.Proofs.YtpdibidfjhjoeaaDoor.Con Go.Proofs.YtpdibidfjhjoeaaDoor.Le Go.Proofs.YtpdibidfjhjoeaaDoor.Sep
set_option linter.unusedVariables false

theorem icmp_swap (x y : List Int) : icmp y x = - icmp x y := by
  unfold icmp
  have hs := cmpI_swap (x.take (x.length - 8)) (y.take (y.length - 8))
  generalize cmpI (x.take (x.length - 8)) (y.take (y.length - 8)) = u at *
  rw [hs]
  by_cases hu : u = 0
  · subst hu
    rw [if_pos (by omega), if_pos rfl]
    split <;> split <;> (try split) <;> (try split) <;> omega
  · rw [if_neg (by omega), if_neg hu]

theorem Bytes_yes {w : World} {A B : Option Addr} {n c m d : Nat} {l k : List Int} (hr : l = k) (h : Kd.C (Kd.int .u8) w A n l) (hc : n ≤ c) (g : Kd.C (Kd.int .u8) w B m k) (hd : m ≤ d) :
    Calls Tryd.prog 9 #[.slice A n c, .slice B m d] w fun e w' => e = .returned (.bool true) ∧ Below w.heap.size w w' := by
  have := Orders.Bytes_same h hc g hd
  rwa [show Orders.same l k = true from decide_eq_true hr] at this

theorem SpecIkeyCompare_r {w : World} {A B : Option Addr} {n c m d : Nat} {l k : List Int} (r : Int) (hr : icmp l k = r) (h : Kd.C (Kd.int .u8) w A n l) (g : Kd.C (Kd.int .u8) w B m k) (hl : Byt l) (hk : Byt k) (hn : 8 ≤ n) (hm : 8 ≤ m) (hc : n ≤ c) (hd : m ≤ d) :
    Calls Tryd.prog 20 #[.slice A n c, .slice B m d] w fun e w' => e = .returned (.int .i64 r) ∧ Below w.heap.size w w' := by
  subst hr
  exact SpecIkeyCompare_calls h g hl hk hn hm hc hd

theorem IkeyCompare_r {w : World} {A B : Option Addr} {n c m d : Nat} {l k : List Int} (r : Int) (hr : icmp l k = r) (h : Kd.C (Kd.int .u8) w A n l) (g : Kd.C (Kd.int .u8) w B m k) (hl : Byt l) (hk : Byt k) (hn : 8 ≤ n) (hm : 8 ≤ m) (hc : n ≤ c) (hd : m ≤ d) :
    Calls Tryd.prog 19 #[.slice A n c, .slice B m d] w fun e w' => e = .returned (.tuple #[.int .i64 r, .bool true]) ∧ Below w.heap.size w w' := by
  subst hr
  exact IkeyCompare_calls h g hl hk hn hm hc hd

theorem Succ_c {w : World} {X : Option Addr} {cx : Nat} {x : List Int} (hr : Kd.C (Kd.int .u8) w X x.length x) (hc : x.length ≤ cx) (bx : Byt x) (h8 : 8 ≤ x.length) (hl : x.length ≤ 4294967296) :
    Calls Tryd.prog 23 #[.slice X x.length cx] w (ThreeRow (fun s => 0 ≤ icmp s x ∧ Byt s ∧ s.length ≤ x.length ∧ 8 ≤ s.length) w) := by
  obtain ⟨m, hm⟩ : ∃ m, x.length = m + 8 := ⟨x.length - 8, by omega⟩
  rw [hm] at hr hc ⊢
  exact IkeySuccessor_calls hr hc bx (by omega)

theorem Sep_c {w : World} {X : Option Addr} {cx : Nat} {x : List Int} {Y : Option Addr} {cy : Nat} {y : List Int} (hr : Kd.C (Kd.int .u8) w X x.length x) (hc : x.length ≤ cx) (bx : Byt x) (h8 : 8 ≤ x.length) (hl : x.length ≤ 4294967296)
    (gr : Kd.C (Kd.int .u8) w Y y.length y) (gc : y.length ≤ cy) (by' : Byt y) (g8 : 8 ≤ y.length) :
    Calls Tryd.prog 24 #[.slice X x.length cx, .slice Y y.length cy] w (ThreeRow (fun s => (0 ≤ icmp s x ∧ icmp s y < 0) ∧ Byt s ∧ s.length ≤ x.length ∧ 8 ≤ s.length) w) := by
  obtain ⟨m, hm⟩ : ∃ m, x.length = m + 8 := ⟨x.length - 8, by omega⟩
  obtain ⟨q, hq⟩ : ∃ q, y.length = q + 8 := ⟨y.length - 8, by omega⟩
  rw [hm] at hr hc ⊢
  rw [hq] at gr gc ⊢
  exact IkeySeparator_calls hr hc bx gr gc by' (by omega)

set_option maxHeartbeats 1600000 in
set_option maxRecDepth 100000 in
theorem ikey_sep {w : World} {d1 d2 : Bool} {K : Option Addr} {c : Nat} {V : Option Addr} {m e : Nat} {K' : Option Addr} {c' : Nat} {V' : Option Addr} {m' e' : Nat} {la lb : List Int} {p0 q0 p q : Int}
    (h : Kd.C (Kd.int .u8) w K la.length la) (hc : la.length ≤ c) (ba : Byt la) (g : Kd.C (Kd.int .u8) w K' lb.length lb) (hc' : lb.length ≤ c') (bb : Byt lb)
    (h1 : (la.length : Int) ≤ 2147483647) (h2 : (m : Int) ≤ 2147483647) (h3 : (lb.length : Int) ≤ 2147483647) (h4 : (m' : Int) ≤ 2147483647)
    (hp : Go.bits .and .u64 p0 72057594037927935 = p) (hq : Go.bits .and .u64 q0 72057594037927935 = q) (pl : 0 ≤ p) (ph : p ≤ 72057594037927935) (ql : 0 ≤ q) (qh : q ≤ 72057594037927935)
    (hr : icmp (ikey la p (kindOf d1)) (ikey lb q (kindOf d2)) = -1) :
    Calls Tryd.prog 6 #[.agg #[.bool d1, .slice K la.length c, .slice V m e], .agg #[.bool d2, .slice K' lb.length c', .slice V' m' e'], .int .u64 p0, .int .u64 q0] w fun x w' => x = .returned (.bool true) ∧ Below w.heap.size w w' := by
  have hF1 := fun (w1 : World) => fits6_true (w := w1) (d := d1) (K := K) (n := la.length) (c := c) (V := V) (m := m) (e := e) h1 h2
  have hF2 := fun (w1 : World) => fits6_true (w := w1) (d := d2) (K := K') (n := lb.length) (c := c') (V := V') (m := m') (e := e') h3 h4
  have hI := fun (w1 : World) (hb : Below w.heap.size w w1) => ikeys_calls (d1 := d1) (d2 := d2) (c := c) (c' := c') (V := V) (m := m) (e := e) (V' := V') (m' := m') (e' := e') (Kd.C_below h hb) (Kd.C_below g hb) (by omega) (by omega) pl ph ql qh
  have hS := fun (w1 : World) (hb : Below w.heap.size w w1) => SpecIkey_r (Kd.C_below h hb) hc (by omega) pl ph (kindOf_lo d1) (kindOf_hi d1)
  have HA := Lib.hid h
  have HCA := Lib.hid hc
  have lx : Hid (8 ≤ (ikey la p (kindOf d1)).length ∧ (ikey la p (kindOf d1)).length ≤ 4294967296) := by unfold Hid; rw [ikey_len]; omega
  have ly : Hid (8 ≤ (ikey lb q (kindOf d2)).length ∧ (ikey lb q (kindOf d2)).length ≤ 4294967296) := by unfold Hid; rw [ikey_len]; omega
  have bx := Lib.hid (ikey_byt ba p (kindOf d1))
  have by' := Lib.hid (ikey_byt bb q (kindOf d2))
  have hx := Lib.hid (ikey_num la p (kindOf d1) pl ph (kindOf_lo d1) (kindOf_hi d1))
  have ex := Lib.hid (ikey_take la p (kindOf d1))
  have hk : (kindOf d1 == 0) = d1 := by cases d1 <;> rfl
  have kl := kindOf_lo d1
  have kh := kindOf_hi d1
  clear h g ba bb hc hc'
  generalize ikey la p (kindOf d1) = x at *
  generalize ikey lb q (kindOf d2) = y at *
  generalize kindOf d1 = k1 at *
  have hP := fun (w1 : World) (X : Option Addr) (cx : Nat) (hr : Kd.C (Kd.int .u8) w1 X x.length x) => IkeyParse_calls (c := cx) hr bx.out lx.out.1 lx.out.2 hx.out pl ph kl kh
  rw [ex.out] at hP
  have hr2 : Hid (icmp y x = 1) := by rw [Hid, icmp_swap, hr] <;> rfl
  have HR := Lib.hid hr
  clear hr
  go_enter Tryd.func6, Tryd.ntmps6
  go_wp2_with fail
  obtain ⟨hc1, hc2, hB0⟩ := two_boxes w #[.bool d1, .slice K la.length c, .slice V m e] #[.bool d2, .slice K' lb.length c', .slice V' m' e'] 42
  generalize ((w.alloc (Obj.cells #[Value.bool d1, Value.slice K la.length c, Value.slice V m e] 42)).alloc (Obj.cells #[Value.bool d2, Value.slice K' lb.length c', Value.slice V' m' e'] 42)) = W0 at *
  have c10 : W0.cell? ⟨w.heap.size, 0, none⟩ = some (.bool d1) := hc1 0
  have c11 : W0.cell? ⟨w.heap.size, 1, none⟩ = some (.slice K la.length c) := hc1 1
  have c12 : W0.cell? ⟨w.heap.size, 2, none⟩ = some (.slice V m e) := hc1 2
  have c20 : W0.cell? ⟨w.heap.size + 1, 0, none⟩ = some (.bool d2) := hc2 0
  have c21 : W0.cell? ⟨w.heap.size + 1, 1, none⟩ = some (.slice K' lb.length c') := hc2 1
  have c22 : W0.cell? ⟨w.heap.size + 1, 2, none⟩ = some (.slice V' m' e') := hc2 2
  clear hc1 hc2
  refine (hF1 _).mono ?_
  rintro e w1 ⟨rfl, hb⟩
  have hB1 := below_then hB0 hB0.size hb
  replace c10 := pw_cell_below hb c10
  replace c11 := pw_cell_below hb c11
  replace c12 := pw_cell_below hb c12
  replace c20 := pw_cell_below hb c20
  replace c21 := pw_cell_below hb c21
  replace c22 := pw_cell_below hb c22
  clear hb hF1 hB0
  go_wp2_with fail
  refine (hF2 _).mono ?_
  rintro e w2 ⟨rfl, hb⟩
  have hB2 := below_then hB1 hB1.size hb
  replace c10 := pw_cell_below hb c10
  replace c11 := pw_cell_below hb c11
  replace c12 := pw_cell_below hb c12
  replace c20 := pw_cell_below hb c20
  replace c21 := pw_cell_below hb c21
  replace c22 := pw_cell_below hb c22
  clear hb hF2 hB1
  go_wp2_with fail
  refine (hI w2 hB2).mono ?_
  rintro e w3 ⟨X, cx, Y, cy, rfl, hrx, hcx, hry, hcy, hb⟩
  have hB3 := below_then hB2 hB2.size hb
  replace c10 := pw_cell_below hb c10
  replace c11 := pw_cell_below hb c11
  have HX3 := Lib.hid hrx
  have HCX := Lib.hid hcx
  have HY3 := Lib.hid hry
  have HCY := Lib.hid hcy
  clear hb hI hB2 c12 c20 c21 c22 hrx hcx hry hcy
  go_wp2_with fail
  refine (hP w3 X cx HX3.out).mono ?_
  rintro e w4 ⟨P, cp, rfl, hrp, hcp, hb⟩
  have hB4 := below_then hB3 hB3.size hb
  replace c10 := pw_cell_below hb c10
  replace c11 := pw_cell_below hb c11
  have HX4 := Lib.hid (Kd.C_below HX3.out hb)
  have HY4 := Lib.hid (Kd.C_below HY3.out hb)
  have HP4 := Lib.hid hrp
  have HCP := Lib.hid hcp
  clear hb hP hB3 HX3 HY3 hrp hcp
  go_wp2_with fail
  refine (Bytes_yes rfl HP4.out HCP.out (Kd.C_below HA.out hB4) HCA.out).mono ?_
  rintro e w5 ⟨rfl, hb⟩
  have hB5 := below_then hB4 hB4.size hb
  replace c10 := pw_cell_below hb c10
  replace c11 := pw_cell_below hb c11
  have HX5 := Lib.hid (Kd.C_below HX4.out hb)
  have HY5 := Lib.hid (Kd.C_below HY4.out hb)
  clear hb hB4 HX4 HY4 HP4 HCP
  go_wp2_with fail
  refine (hS w5 hB5).mono ?_
  rintro e w6 ⟨Z, cz, rfl, hrz, hcz, hb⟩
  have hB6 := below_then hB5 hB5.size hb
  have HX6 := Lib.hid (Kd.C_below HX5.out hb)
  have HY6 := Lib.hid (Kd.C_below HY5.out hb)
  have HZ6 := Lib.hid hrz
  have HCZ := Lib.hid hcz
  clear hb hS hB5 HX5 HY5 hrz hcz c10 c11
  go_wp2_with fail
  refine (Bytes_yes rfl HX6.out HCX.out HZ6.out HCZ.out).mono ?_
  rintro e w7 ⟨rfl, hb⟩
  have hB7 := below_then hB6 hB6.size hb
  have HX7 := Lib.hid (Kd.C_below HX6.out hb)
  have HY7 := Lib.hid (Kd.C_below HY6.out hb)
  clear hb hB6 HX6 HY6 HZ6 HCZ
  go_wp2_with fail
  refine (IkeyCompare_r _ HR.out HX7.out HY7.out bx.out by'.out lx.out.1 ly.out.1 HCX.out HCY.out).mono ?_
  rintro e w8 ⟨rfl, hb⟩
  have hB8 := below_then hB7 hB7.size hb
  have HX8 := Lib.hid (Kd.C_below HX7.out hb)
  have HY8 := Lib.hid (Kd.C_below HY7.out hb)
  clear hb hB7 HX7 HY7
  go_wp2_with fail
  refine (IkeyCompare_r _ hr2.out HY8.out HX8.out by'.out bx.out ly.out.1 lx.out.1 HCY.out HCX.out).mono ?_
  rintro e w9 ⟨rfl, hb⟩
  have hB9 := below_then hB8 hB8.size hb
  have HX9 := Lib.hid (Kd.C_below HX8.out hb)
  have HY9 := Lib.hid (Kd.C_below HY8.out hb)
  clear hb hB8 HX8 HY8
  go_wp2_with fail
  refine (SpecIkeyCompare_r _ HR.out HX9.out HY9.out bx.out by'.out lx.out.1 ly.out.1 HCX.out HCY.out).mono ?_
  rintro e w10 ⟨rfl, hb⟩
  have hB10 := below_then hB9 hB9.size hb
  have HXa := Lib.hid (Kd.C_below HX9.out hb)
  have HYa := Lib.hid (Kd.C_below HY9.out hb)
  clear hb hB9 HX9 HY9
  go_wp2_with fail
  refine (Succ_c HXa.out HCX.out bx.out lx.out.1 lx.out.2).mono ?_
  rintro e w11 ⟨S, cs, s, n, rfl, hrs, hcs, hn, hb⟩
  have hB11 := below_then hB10 hB10.size hb
  have HXb := Lib.hid (Kd.C_below HXa.out hb)
  have HYb := Lib.hid (Kd.C_below HYa.out hb)
  have HSb := Lib.hid hrs
  have HCS := Lib.hid hcs
  clear hb hB10 HXa HYa hrs hcs
  rcases hn with rfl | ⟨rfl, hP1⟩
  · have hBz := hB11
    have HXz := HXb
    have HYz := HYb
    go_wp2_with fail
    refine (Sep_c HXz.out HCX.out bx.out lx.out.1 lx.out.2 HYz.out HCY.out by'.out ly.out.1).mono ?_
    rintro e w13 ⟨S2, cs2, s2, n2, rfl, hrs2, hcs2, hn2, hb⟩
    have hB13 := below_then hBz hBz.size hb
    have HXc := Lib.hid (Kd.C_below HXz.out hb)
    have HYc := Lib.hid (Kd.C_below HYz.out hb)
    have HSc := Lib.hid hrs2
    have HCS2 := Lib.hid hcs2
    clear hb hBz hrs2 hcs2
    rcases hn2 with rfl | ⟨rfl, hP2⟩
    · go_wp2
      go_ret
      exact ⟨rfl, hB13⟩
    · obtain ⟨⟨hge, hlt⟩, bs2, sl2, s82⟩ := hP2
      have B2 := Lib.hid bs2
      obtain ⟨v2, ev2⟩ : ∃ v2, v2 = icmp s2 x := ⟨_, rfl⟩
      obtain ⟨v3, ev3⟩ : ∃ v3, v3 = icmp s2 y := ⟨_, rfl⟩
      rw [← ev2] at hge
      rw [← ev3] at hlt
      have EV2 := Lib.hid ev2.symm
      have EV3 := Lib.hid ev3.symm
      clear ev2 ev3 bs2 sl2
      go_wp2_with fail
      refine (SpecIkeyCompare_r _ EV2.out HSc.out HXc.out B2.out bx.out s82 lx.out.1 HCS2.out HCX.out).mono ?_
      rintro e w14 ⟨rfl, hb⟩
      have hB14 := below_then hB13 hB13.size hb
      have HYd := Lib.hid (Kd.C_below HYc.out hb)
      have HSd := Lib.hid (Kd.C_below HSc.out hb)
      clear hb hB13
      go_wp2_with fail
      refine (SpecIkeyCompare_r _ EV3.out HSd.out HYd.out B2.out by'.out s82 ly.out.1 HCS2.out HCY.out).mono ?_
      rintro e w15 ⟨rfl, hb⟩
      have hB15 := below_then hB14 hB14.size hb
      clear hb hB14
      go_wp2
      go_ret
      exact ⟨rfl, hB15⟩
  · obtain ⟨hge1, bs1, sl1, s81⟩ := hP1
    have B1 := Lib.hid bs1
    obtain ⟨v1, ev1⟩ : ∃ v1, v1 = icmp s x := ⟨_, rfl⟩
    rw [← ev1] at hge1
    have EV1 := Lib.hid ev1.symm
    clear ev1 bs1 sl1
    go_wp2_with fail
    refine (SpecIkeyCompare_r _ EV1.out HSb.out HXb.out B1.out bx.out s81 lx.out.1 HCS.out HCX.out).mono ?_
    rintro e w12 ⟨rfl, hb⟩
    have hBz := below_then hB11 hB11.size hb
    have HXz := Lib.hid (Kd.C_below HXb.out hb)
    have HYz := Lib.hid (Kd.C_below HYb.out hb)
    clear hb hB11 HXb HYb HSb HCS
    go_wp2_with fail
    refine (Sep_c HXz.out HCX.out bx.out lx.out.1 lx.out.2 HYz.out HCY.out by'.out ly.out.1).mono ?_
    rintro e w13 ⟨S2, cs2, s2, n2, rfl, hrs2, hcs2, hn2, hb⟩
    have hB13 := below_then hBz hBz.size hb
    have HXc := Lib.hid (Kd.C_below HXz.out hb)
    have HYc := Lib.hid (Kd.C_below HYz.out hb)
    have HSc := Lib.hid hrs2
    have HCS2 := Lib.hid hcs2
    clear hb hBz hrs2 hcs2
    rcases hn2 with rfl | ⟨rfl, hP2⟩
    · go_wp2
      go_ret
      exact ⟨rfl, hB13⟩
    · obtain ⟨⟨hge, hlt⟩, bs2, sl2, s82⟩ := hP2
      have B2 := Lib.hid bs2
      obtain ⟨v2, ev2⟩ : ∃ v2, v2 = icmp s2 x := ⟨_, rfl⟩
      obtain ⟨v3, ev3⟩ : ∃ v3, v3 = icmp s2 y := ⟨_, rfl⟩
      rw [← ev2] at hge
      rw [← ev3] at hlt
      have EV2 := Lib.hid ev2.symm
      have EV3 := Lib.hid ev3.symm
      clear ev2 ev3 bs2 sl2
      go_wp2_with fail
      refine (SpecIkeyCompare_r _ EV2.out HSc.out HXc.out B2.out bx.out s82 lx.out.1 HCS2.out HCX.out).mono ?_
      rintro e w14 ⟨rfl, hb⟩
      have hB14 := below_then hB13 hB13.size hb
      have HYd := Lib.hid (Kd.C_below HYc.out hb)
      have HSd := Lib.hid (Kd.C_below HSc.out hb)
      clear hb hB13
      go_wp2_with fail
      refine (SpecIkeyCompare_r _ EV3.out HSd.out HYd.out B2.out by'.out s82 ly.out.1 HCS2.out HCY.out).mono ?_
      rintro e w15 ⟨rfl, hb⟩
      have hB15 := below_then hB14 hB14.size hb
      clear hb hB14
      go_wp2
      go_ret
      exact ⟨rfl, hB15⟩

set_option maxHeartbeats 1600000 in
set_option maxRecDepth 100000 in
theorem ikey_zero {w : World} {d1 d2 : Bool} {K : Option Addr} {c : Nat} {V : Option Addr} {m e : Nat} {K' : Option Addr} {c' : Nat} {V' : Option Addr} {m' e' : Nat} {la lb : List Int} {p0 q0 p q : Int}
    (h : Kd.C (Kd.int .u8) w K la.length la) (hc : la.length ≤ c) (ba : Byt la) (g : Kd.C (Kd.int .u8) w K' lb.length lb) (hc' : lb.length ≤ c') (bb : Byt lb)
    (h1 : (la.length : Int) ≤ 2147483647) (h2 : (m : Int) ≤ 2147483647) (h3 : (lb.length : Int) ≤ 2147483647) (h4 : (m' : Int) ≤ 2147483647)
    (hp : Go.bits .and .u64 p0 72057594037927935 = p) (hq : Go.bits .and .u64 q0 72057594037927935 = q) (pl : 0 ≤ p) (ph : p ≤ 72057594037927935) (ql : 0 ≤ q) (qh : q ≤ 72057594037927935)
    (hr : icmp (ikey la p (kindOf d1)) (ikey lb q (kindOf d2)) = 0) :
    Calls Tryd.prog 6 #[.agg #[.bool d1, .slice K la.length c, .slice V m e], .agg #[.bool d2, .slice K' lb.length c', .slice V' m' e'], .int .u64 p0, .int .u64 q0] w fun x w' => x = .returned (.bool true) ∧ Below w.heap.size w w' := by
  have hF1 := fun (w1 : World) => fits6_true (w := w1) (d := d1) (K := K) (n := la.length) (c := c) (V := V) (m := m) (e := e) h1 h2
  have hF2 := fun (w1 : World) => fits6_true (w := w1) (d := d2) (K := K') (n := lb.length) (c := c') (V := V') (m := m') (e := e') h3 h4
  have hI := fun (w1 : World) (hb : Below w.heap.size w w1) => ikeys_calls (d1 := d1) (d2 := d2) (c := c) (c' := c') (V := V) (m := m) (e := e) (V' := V') (m' := m') (e' := e') (Kd.C_below h hb) (Kd.C_below g hb) (by omega) (by omega) pl ph ql qh
  have hS := fun (w1 : World) (hb : Below w.heap.size w w1) => SpecIkey_r (Kd.C_below h hb) hc (by omega) pl ph (kindOf_lo d1) (kindOf_hi d1)
  have HA := Lib.hid h
  have HCA := Lib.hid hc
  have lx : Hid (8 ≤ (ikey la p (kindOf d1)).length ∧ (ikey la p (kindOf d1)).length ≤ 4294967296) := by unfold Hid; rw [ikey_len]; omega
  have ly : Hid (8 ≤ (ikey lb q (kindOf d2)).length ∧ (ikey lb q (kindOf d2)).length ≤ 4294967296) := by unfold Hid; rw [ikey_len]; omega
  have bx := Lib.hid (ikey_byt ba p (kindOf d1))
  have by' := Lib.hid (ikey_byt bb q (kindOf d2))
  have hx := Lib.hid (ikey_num la p (kindOf d1) pl ph (kindOf_lo d1) (kindOf_hi d1))
  have ex := Lib.hid (ikey_take la p (kindOf d1))
  have hk : (kindOf d1 == 0) = d1 := by cases d1 <;> rfl
  have kl := kindOf_lo d1
  have kh := kindOf_hi d1
  clear h g ba bb hc hc'
  generalize ikey la p (kindOf d1) = x at *
  generalize ikey lb q (kindOf d2) = y at *
  generalize kindOf d1 = k1 at *
  have hP := fun (w1 : World) (X : Option Addr) (cx : Nat) (hr : Kd.C (Kd.int .u8) w1 X x.length x) => IkeyParse_calls (c := cx) hr bx.out lx.out.1 lx.out.2 hx.out pl ph kl kh
  rw [ex.out] at hP
  have hr2 : Hid (icmp y x = 0) := by rw [Hid, icmp_swap, hr] <;> rfl
  have HR := Lib.hid hr
  clear hr
  go_enter Tryd.func6, Tryd.ntmps6
  go_wp2_with fail
  obtain ⟨hc1, hc2, hB0⟩ := two_boxes w #[.bool d1, .slice K la.length c, .slice V m e] #[.bool d2, .slice K' lb.length c', .slice V' m' e'] 42
  generalize ((w.alloc (Obj.cells #[Value.bool d1, Value.slice K la.length c, Value.slice V m e] 42)).alloc (Obj.cells #[Value.bool d2, Value.slice K' lb.length c', Value.slice V' m' e'] 42)) = W0 at *
  have c10 : W0.cell? ⟨w.heap.size, 0, none⟩ = some (.bool d1) := hc1 0
  have c11 : W0.cell? ⟨w.heap.size, 1, none⟩ = some (.slice K la.length c) := hc1 1
  have c12 : W0.cell? ⟨w.heap.size, 2, none⟩ = some (.slice V m e) := hc1 2
  have c20 : W0.cell? ⟨w.heap.size + 1, 0, none⟩ = some (.bool d2) := hc2 0
  have c21 : W0.cell? ⟨w.heap.size + 1, 1, none⟩ = some (.slice K' lb.length c') := hc2 1
  have c22 : W0.cell? ⟨w.heap.size + 1, 2, none⟩ = some (.slice V' m' e') := hc2 2
  clear hc1 hc2
  refine (hF1 _).mono ?_
  rintro e w1 ⟨rfl, hb⟩
  have hB1 := below_then hB0 hB0.size hb
  replace c10 := pw_cell_below hb c10
  replace c11 := pw_cell_below hb c11
  replace c12 := pw_cell_below hb c12
  replace c20 := pw_cell_below hb c20
  replace c21 := pw_cell_below hb c21
  replace c22 := pw_cell_below hb c22
  clear hb hF1 hB0
  go_wp2_with fail
  refine (hF2 _).mono ?_
  rintro e w2 ⟨rfl, hb⟩
  have hB2 := below_then hB1 hB1.size hb
  replace c10 := pw_cell_below hb c10
  replace c11 := pw_cell_below hb c11
  replace c12 := pw_cell_below hb c12
  replace c20 := pw_cell_below hb c20
  replace c21 := pw_cell_below hb c21
  replace c22 := pw_cell_below hb c22
  clear hb hF2 hB1
  go_wp2_with fail
  refine (hI w2 hB2).mono ?_
  rintro e w3 ⟨X, cx, Y, cy, rfl, hrx, hcx, hry, hcy, hb⟩
  have hB3 := below_then hB2 hB2.size hb
  replace c10 := pw_cell_below hb c10
  replace c11 := pw_cell_below hb c11
  have HX3 := Lib.hid hrx
  have HCX := Lib.hid hcx
  have HY3 := Lib.hid hry
  have HCY := Lib.hid hcy
  clear hb hI hB2 c12 c20 c21 c22 hrx hcx hry hcy
  go_wp2_with fail
  refine (hP w3 X cx HX3.out).mono ?_
  rintro e w4 ⟨P, cp, rfl, hrp, hcp, hb⟩
  have hB4 := below_then hB3 hB3.size hb
  replace c10 := pw_cell_below hb c10
  replace c11 := pw_cell_below hb c11
  have HX4 := Lib.hid (Kd.C_below HX3.out hb)
  have HY4 := Lib.hid (Kd.C_below HY3.out hb)
  have HP4 := Lib.hid hrp
  have HCP := Lib.hid hcp
  clear hb hP hB3 HX3 HY3 hrp hcp
  go_wp2_with fail
  refine (Bytes_yes rfl HP4.out HCP.out (Kd.C_below HA.out hB4) HCA.out).mono ?_
  rintro e w5 ⟨rfl, hb⟩
  have hB5 := below_then hB4 hB4.size hb
  replace c10 := pw_cell_below hb c10
  replace c11 := pw_cell_below hb c11
  have HX5 := Lib.hid (Kd.C_below HX4.out hb)
  have HY5 := Lib.hid (Kd.C_below HY4.out hb)
  clear hb hB4 HX4 HY4 HP4 HCP
  go_wp2_with fail
  refine (hS w5 hB5).mono ?_
  rintro e w6 ⟨Z, cz, rfl, hrz, hcz, hb⟩
  have hB6 := below_then hB5 hB5.size hb
  have HX6 := Lib.hid (Kd.C_below HX5.out hb)
  have HY6 := Lib.hid (Kd.C_below HY5.out hb)
  have HZ6 := Lib.hid hrz
  have HCZ := Lib.hid hcz
  clear hb hS hB5 HX5 HY5 hrz hcz c10 c11
  go_wp2_with fail
  refine (Bytes_yes rfl HX6.out HCX.out HZ6.out HCZ.out).mono ?_
  rintro e w7 ⟨rfl, hb⟩
  have hB7 := below_then hB6 hB6.size hb
  have HX7 := Lib.hid (Kd.C_below HX6.out hb)
  have HY7 := Lib.hid (Kd.C_below HY6.out hb)
  clear hb hB6 HX6 HY6 HZ6 HCZ
  go_wp2_with fail
  refine (IkeyCompare_r _ HR.out HX7.out HY7.out bx.out by'.out lx.out.1 ly.out.1 HCX.out HCY.out).mono ?_
  rintro e w8 ⟨rfl, hb⟩
  have hB8 := below_then hB7 hB7.size hb
  have HX8 := Lib.hid (Kd.C_below HX7.out hb)
  have HY8 := Lib.hid (Kd.C_below HY7.out hb)
  clear hb hB7 HX7 HY7
  go_wp2_with fail
  refine (IkeyCompare_r _ hr2.out HY8.out HX8.out by'.out bx.out ly.out.1 lx.out.1 HCY.out HCX.out).mono ?_
  rintro e w9 ⟨rfl, hb⟩
  have hB9 := below_then hB8 hB8.size hb
  have HX9 := Lib.hid (Kd.C_below HX8.out hb)
  have HY9 := Lib.hid (Kd.C_below HY8.out hb)
  clear hb hB8 HX8 HY8
  go_wp2_with fail
  refine (SpecIkeyCompare_r _ HR.out HX9.out HY9.out bx.out by'.out lx.out.1 ly.out.1 HCX.out HCY.out).mono ?_
  rintro e w10 ⟨rfl, hb⟩
  have hB10 := below_then hB9 hB9.size hb
  have HXa := Lib.hid (Kd.C_below HX9.out hb)
  have HYa := Lib.hid (Kd.C_below HY9.out hb)
  clear hb hB9 HX9 HY9
  go_wp2_with fail
  refine (Succ_c HXa.out HCX.out bx.out lx.out.1 lx.out.2).mono ?_
  rintro e w11 ⟨S, cs, s, n, rfl, hrs, hcs, hn, hb⟩
  have hB11 := below_then hB10 hB10.size hb
  have HXb := Lib.hid (Kd.C_below HXa.out hb)
  have HYb := Lib.hid (Kd.C_below HYa.out hb)
  have HSb := Lib.hid hrs
  have HCS := Lib.hid hcs
  clear hb hB10 HXa HYa hrs hcs
  rcases hn with rfl | ⟨rfl, hP1⟩
  · have hBz := hB11
    have HXz := HXb
    have HYz := HYb
    go_wp2
    go_ret
    exact ⟨rfl, hBz⟩
  · obtain ⟨hge1, bs1, sl1, s81⟩ := hP1
    have B1 := Lib.hid bs1
    obtain ⟨v1, ev1⟩ : ∃ v1, v1 = icmp s x := ⟨_, rfl⟩
    rw [← ev1] at hge1
    have EV1 := Lib.hid ev1.symm
    clear ev1 bs1 sl1
    go_wp2_with fail
    refine (SpecIkeyCompare_r _ EV1.out HSb.out HXb.out B1.out bx.out s81 lx.out.1 HCS.out HCX.out).mono ?_
    rintro e w12 ⟨rfl, hb⟩
    have hBz := below_then hB11 hB11.size hb
    have HXz := Lib.hid (Kd.C_below HXb.out hb)
    have HYz := Lib.hid (Kd.C_below HYb.out hb)
    clear hb hB11 HXb HYb HSb HCS
    go_wp2
    go_ret
    exact ⟨rfl, hBz⟩

set_option maxHeartbeats 1600000 in
set_option maxRecDepth 100000 in
theorem ikey_one {w : World} {d1 d2 : Bool} {K : Option Addr} {c : Nat} {V : Option Addr} {m e : Nat} {K' : Option Addr} {c' : Nat} {V' : Option Addr} {m' e' : Nat} {la lb : List Int} {p0 q0 p q : Int}
    (h : Kd.C (Kd.int .u8) w K la.length la) (hc : la.length ≤ c) (ba : Byt la) (g : Kd.C (Kd.int .u8) w K' lb.length lb) (hc' : lb.length ≤ c') (bb : Byt lb)
    (h1 : (la.length : Int) ≤ 2147483647) (h2 : (m : Int) ≤ 2147483647) (h3 : (lb.length : Int) ≤ 2147483647) (h4 : (m' : Int) ≤ 2147483647)
    (hp : Go.bits .and .u64 p0 72057594037927935 = p) (hq : Go.bits .and .u64 q0 72057594037927935 = q) (pl : 0 ≤ p) (ph : p ≤ 72057594037927935) (ql : 0 ≤ q) (qh : q ≤ 72057594037927935)
    (hr : icmp (ikey la p (kindOf d1)) (ikey lb q (kindOf d2)) = 1) :
    Calls Tryd.prog 6 #[.agg #[.bool d1, .slice K la.length c, .slice V m e], .agg #[.bool d2, .slice K' lb.length c', .slice V' m' e'], .int .u64 p0, .int .u64 q0] w fun x w' => x = .returned (.bool true) ∧ Below w.heap.size w w' := by
  have hF1 := fun (w1 : World) => fits6_true (w := w1) (d := d1) (K := K) (n := la.length) (c := c) (V := V) (m := m) (e := e) h1 h2
  have hF2 := fun (w1 : World) => fits6_true (w := w1) (d := d2) (K := K') (n := lb.length) (c := c') (V := V') (m := m') (e := e') h3 h4
  have hI := fun (w1 : World) (hb : Below w.heap.size w w1) => ikeys_calls (d1 := d1) (d2 := d2) (c := c) (c' := c') (V := V) (m := m) (e := e) (V' := V') (m' := m') (e' := e') (Kd.C_below h hb) (Kd.C_below g hb) (by omega) (by omega) pl ph ql qh
  have hS := fun (w1 : World) (hb : Below w.heap.size w w1) => SpecIkey_r (Kd.C_below h hb) hc (by omega) pl ph (kindOf_lo d1) (kindOf_hi d1)
  have HA := Lib.hid h
  have HCA := Lib.hid hc
  have lx : Hid (8 ≤ (ikey la p (kindOf d1)).length ∧ (ikey la p (kindOf d1)).length ≤ 4294967296) := by unfold Hid; rw [ikey_len]; omega
  have ly : Hid (8 ≤ (ikey lb q (kindOf d2)).length ∧ (ikey lb q (kindOf d2)).length ≤ 4294967296) := by unfold Hid; rw [ikey_len]; omega
  have bx := Lib.hid (ikey_byt ba p (kindOf d1))
  have by' := Lib.hid (ikey_byt bb q (kindOf d2))
  have hx := Lib.hid (ikey_num la p (kindOf d1) pl ph (kindOf_lo d1) (kindOf_hi d1))
  have ex := Lib.hid (ikey_take la p (kindOf d1))
  have hk : (kindOf d1 == 0) = d1 := by cases d1 <;> rfl
  have kl := kindOf_lo d1
  have kh := kindOf_hi d1
  clear h g ba bb hc hc'
  generalize ikey la p (kindOf d1) = x at *
  generalize ikey lb q (kindOf d2) = y at *
  generalize kindOf d1 = k1 at *
  have hP := fun (w1 : World) (X : Option Addr) (cx : Nat) (hr : Kd.C (Kd.int .u8) w1 X x.length x) => IkeyParse_calls (c := cx) hr bx.out lx.out.1 lx.out.2 hx.out pl ph kl kh
  rw [ex.out] at hP
  have hr2 : Hid (icmp y x = -1) := by rw [Hid, icmp_swap, hr] <;> rfl
  have HR := Lib.hid hr
  clear hr
  go_enter Tryd.func6, Tryd.ntmps6
  go_wp2_with fail
  obtain ⟨hc1, hc2, hB0⟩ := two_boxes w #[.bool d1, .slice K la.length c, .slice V m e] #[.bool d2, .slice K' lb.length c', .slice V' m' e'] 42
  generalize ((w.alloc (Obj.cells #[Value.bool d1, Value.slice K la.length c, Value.slice V m e] 42)).alloc (Obj.cells #[Value.bool d2, Value.slice K' lb.length c', Value.slice V' m' e'] 42)) = W0 at *
  have c10 : W0.cell? ⟨w.heap.size, 0, none⟩ = some (.bool d1) := hc1 0
  have c11 : W0.cell? ⟨w.heap.size, 1, none⟩ = some (.slice K la.length c) := hc1 1
  have c12 : W0.cell? ⟨w.heap.size, 2, none⟩ = some (.slice V m e) := hc1 2
  have c20 : W0.cell? ⟨w.heap.size + 1, 0, none⟩ = some (.bool d2) := hc2 0
  have c21 : W0.cell? ⟨w.heap.size + 1, 1, none⟩ = some (.slice K' lb.length c') := hc2 1
  have c22 : W0.cell? ⟨w.heap.size + 1, 2, none⟩ = some (.slice V' m' e') := hc2 2
  clear hc1 hc2
  refine (hF1 _).mono ?_
  rintro e w1 ⟨rfl, hb⟩
  have hB1 := below_then hB0 hB0.size hb
  replace c10 := pw_cell_below hb c10
  replace c11 := pw_cell_below hb c11
  replace c12 := pw_cell_below hb c12
  replace c20 := pw_cell_below hb c20
  replace c21 := pw_cell_below hb c21
  replace c22 := pw_cell_below hb c22
  clear hb hF1 hB0
  go_wp2_with fail
  refine (hF2 _).mono ?_
  rintro e w2 ⟨rfl, hb⟩
  have hB2 := below_then hB1 hB1.size hb
  replace c10 := pw_cell_below hb c10
  replace c11 := pw_cell_below hb c11
  replace c12 := pw_cell_below hb c12
  replace c20 := pw_cell_below hb c20
  replace c21 := pw_cell_below hb c21
  replace c22 := pw_cell_below hb c22
  clear hb hF2 hB1
  go_wp2_with fail
  refine (hI w2 hB2).mono ?_
  rintro e w3 ⟨X, cx, Y, cy, rfl, hrx, hcx, hry, hcy, hb⟩
  have hB3 := below_then hB2 hB2.size hb
  replace c10 := pw_cell_below hb c10
  replace c11 := pw_cell_below hb c11
  have HX3 := Lib.hid hrx
  have HCX := Lib.hid hcx
  have HY3 := Lib.hid hry
  have HCY := Lib.hid hcy
  clear hb hI hB2 c12 c20 c21 c22 hrx hcx hry hcy
  go_wp2_with fail
  refine (hP w3 X cx HX3.out).mono ?_
  rintro e w4 ⟨P, cp, rfl, hrp, hcp, hb⟩
  have hB4 := below_then hB3 hB3.size hb
  replace c10 := pw_cell_below hb c10
  replace c11 := pw_cell_below hb c11
  have HX4 := Lib.hid (Kd.C_below HX3.out hb)
  have HY4 := Lib.hid (Kd.C_below HY3.out hb)
  have HP4 := Lib.hid hrp
  have HCP := Lib.hid hcp
  clear hb hP hB3 HX3 HY3 hrp hcp
  go_wp2_with fail
  refine (Bytes_yes rfl HP4.out HCP.out (Kd.C_below HA.out hB4) HCA.out).mono ?_
  rintro e w5 ⟨rfl, hb⟩
  have hB5 := below_then hB4 hB4.size hb
  replace c10 := pw_cell_below hb c10
  replace c11 := pw_cell_below hb c11
  have HX5 := Lib.hid (Kd.C_below HX4.out hb)
  have HY5 := Lib.hid (Kd.C_below HY4.out hb)
  clear hb hB4 HX4 HY4 HP4 HCP
  go_wp2_with fail
  refine (hS w5 hB5).mono ?_
  rintro e w6 ⟨Z, cz, rfl, hrz, hcz, hb⟩
  have hB6 := below_then hB5 hB5.size hb
  have HX6 := Lib.hid (Kd.C_below HX5.out hb)
  have HY6 := Lib.hid (Kd.C_below HY5.out hb)
  have HZ6 := Lib.hid hrz
  have HCZ := Lib.hid hcz
  clear hb hS hB5 HX5 HY5 hrz hcz c10 c11
  go_wp2_with fail
  refine (Bytes_yes rfl HX6.out HCX.out HZ6.out HCZ.out).mono ?_
  rintro e w7 ⟨rfl, hb⟩
  have hB7 := below_then hB6 hB6.size hb
  have HX7 := Lib.hid (Kd.C_below HX6.out hb)
  have HY7 := Lib.hid (Kd.C_below HY6.out hb)
  clear hb hB6 HX6 HY6 HZ6 HCZ
  go_wp2_with fail
  refine (IkeyCompare_r _ HR.out HX7.out HY7.out bx.out by'.out lx.out.1 ly.out.1 HCX.out HCY.out).mono ?_
  rintro e w8 ⟨rfl, hb⟩
  have hB8 := below_then hB7 hB7.size hb
  have HX8 := Lib.hid (Kd.C_below HX7.out hb)
  have HY8 := Lib.hid (Kd.C_below HY7.out hb)
  clear hb hB7 HX7 HY7
  go_wp2_with fail
  refine (IkeyCompare_r _ hr2.out HY8.out HX8.out by'.out bx.out ly.out.1 lx.out.1 HCY.out HCX.out).mono ?_
  rintro e w9 ⟨rfl, hb⟩
  have hB9 := below_then hB8 hB8.size hb
  have HX9 := Lib.hid (Kd.C_below HX8.out hb)
  have HY9 := Lib.hid (Kd.C_below HY8.out hb)
  clear hb hB8 HX8 HY8
  go_wp2_with fail
  refine (SpecIkeyCompare_r _ HR.out HX9.out HY9.out bx.out by'.out lx.out.1 ly.out.1 HCX.out HCY.out).mono ?_
  rintro e w10 ⟨rfl, hb⟩
  have hB10 := below_then hB9 hB9.size hb
  have HXa := Lib.hid (Kd.C_below HX9.out hb)
  have HYa := Lib.hid (Kd.C_below HY9.out hb)
  clear hb hB9 HX9 HY9
  go_wp2_with fail
  refine (Succ_c HXa.out HCX.out bx.out lx.out.1 lx.out.2).mono ?_
  rintro e w11 ⟨S, cs, s, n, rfl, hrs, hcs, hn, hb⟩
  have hB11 := below_then hB10 hB10.size hb
  have HXb := Lib.hid (Kd.C_below HXa.out hb)
  have HYb := Lib.hid (Kd.C_below HYa.out hb)
  have HSb := Lib.hid hrs
  have HCS := Lib.hid hcs
  clear hb hB10 HXa HYa hrs hcs
  rcases hn with rfl | ⟨rfl, hP1⟩
  · have hBz := hB11
    have HXz := HXb
    have HYz := HYb
    go_wp2
    go_ret
    exact ⟨rfl, hBz⟩
  · obtain ⟨hge1, bs1, sl1, s81⟩ := hP1
    have B1 := Lib.hid bs1
    obtain ⟨v1, ev1⟩ : ∃ v1, v1 = icmp s x := ⟨_, rfl⟩
    rw [← ev1] at hge1
    have EV1 := Lib.hid ev1.symm
    clear ev1 bs1 sl1
    go_wp2_with fail
    refine (SpecIkeyCompare_r _ EV1.out HSb.out HXb.out B1.out bx.out s81 lx.out.1 HCS.out HCX.out).mono ?_
    rintro e w12 ⟨rfl, hb⟩
    have hBz := below_then hB11 hB11.size hb
    have HXz := Lib.hid (Kd.C_below HXb.out hb)
    have HYz := Lib.hid (Kd.C_below HYb.out hb)
    clear hb hB11 HXb HYb HSb HCS
    go_wp2
    go_ret
    exact ⟨rfl, hBz⟩

set_option maxHeartbeats 400000 in
theorem ikey_out {w : World} {d1 d2 : Bool} {K : Option Addr} {n c : Nat} {V : Option Addr} {m e : Nat} {K' : Option Addr} {n' c' : Nat} {V' : Option Addr} {m' e' : Nat} {p0 q0 : Int}
    (h : ¬ (((n : Int) ≤ 2147483647 ∧ (m : Int) ≤ 2147483647) ∧ ((n' : Int) ≤ 2147483647 ∧ (m' : Int) ≤ 2147483647))) :
    Calls Tryd.prog 6 #[.agg #[.bool d1, .slice K n c, .slice V m e], .agg #[.bool d2, .slice K' n' c', .slice V' m' e'], .int .u64 p0, .int .u64 q0] w fun x w' => x = .returned (.bool true) ∧ Below w.heap.size w w' := by
  by_cases h1 : (n : Int) ≤ 2147483647 ∧ (m : Int) ≤ 2147483647
  · have h2 : ¬ ((n' : Int) ≤ 2147483647 ∧ (m' : Int) ≤ 2147483647) := fun z => h ⟨h1, z⟩
    have hF1 := fun (w1 : World) => fits6_true (w := w1) (d := d1) (K := K) (n := n) (c := c) (V := V) (m := m) (e := e) h1.1 h1.2
    have hF2 := fun (w1 : World) => fits6_false (w := w1) (d := d2) (K := K') (n := n') (c := c') (V := V') (m := m') (e := e') h2
    clear h h1 h2
    go_enter Tryd.func6, Tryd.ntmps6
    go_wp2_with fail
    obtain ⟨hc1, hc2, hB0⟩ := two_boxes w #[.bool d1, .slice K n c, .slice V m e] #[.bool d2, .slice K' n' c', .slice V' m' e'] 42
    generalize ((w.alloc (Obj.cells #[Value.bool d1, Value.slice K n c, Value.slice V m e] 42)).alloc (Obj.cells #[Value.bool d2, Value.slice K' n' c', Value.slice V' m' e'] 42)) = W0 at *
    have c20 : W0.cell? ⟨w.heap.size + 1, 0, none⟩ = some (.bool d2) := hc2 0
    have c21 : W0.cell? ⟨w.heap.size + 1, 1, none⟩ = some (.slice K' n' c') := hc2 1
    have c22 : W0.cell? ⟨w.heap.size + 1, 2, none⟩ = some (.slice V' m' e') := hc2 2
    clear hc1 hc2
    refine (hF1 _).mono ?_
    rintro e w1 ⟨rfl, hb⟩
    have hB1 := below_then hB0 hB0.size hb
    replace c20 := pw_cell_below hb c20
    replace c21 := pw_cell_below hb c21
    replace c22 := pw_cell_below hb c22
    go_wp2_with fail
    refine (hF2 _).mono ?_
    rintro e w2 ⟨rfl, hb⟩
    have hB2 := below_then hB1 hB1.size hb
    go_wp2
    go_ret
    exact ⟨rfl, hB2⟩
  · have hF1 := fun (w1 : World) => fits6_false (w := w1) (d := d1) (K := K) (n := n) (c := c) (V := V) (m := m) (e := e) h1
    clear h h1
    go_enter Tryd.func6, Tryd.ntmps6
    go_wp2_with fail
    obtain ⟨hc1, hc2, hB0⟩ := two_boxes w #[.bool d1, .slice K n c, .slice V m e] #[.bool d2, .slice K' n' c', .slice V' m' e'] 42
    generalize ((w.alloc (Obj.cells #[Value.bool d1, Value.slice K n c, Value.slice V m e] 42)).alloc (Obj.cells #[Value.bool d2, Value.slice K' n' c', Value.slice V' m' e'] 42)) = W0 at *
    refine (hF1 _).mono ?_
    rintro e w1 ⟨rfl, hb⟩
    have hB1 := below_then hB0 hB0.size hb
    go_wp2
    go_ret
    exact ⟨rfl, hB1⟩

theorem and_mask (v : Int) (h0 : 0 ≤ v) (h1 : v < 18446744073709551616) : Go.bits .and .u64 v 72057594037927935 = v % 72057594037927936 := by
  rw [u64_and v 72057594037927935 h0 h1 (by decide) (by decide)]
  have := Nat.and_two_pow_sub_one_eq_mod v.toNat 56
  simp at this
  have e : (72057594037927935 : Int).toNat = 72057594037927935 := rfl
  rw [e, this]
  omega

theorem ikey_walk (d1 : Bool) (K : Option Addr) (c : Nat) (la : List Int) (V : Option Addr) (e : Nat) (va : List Int) (d2 : Bool) (K' : Option Addr) (c' : Nat) (lb : List Int) (V' : Option Addr) (e' : Nat) (vb : List Int) (p0 q0 : Int) (w : World)
    (h : Kd.C (Kd.int .u8) w K la.length la) (hc : la.length ≤ c) (ba : Byt la) 
    (_v : Kd.C (Kd.int .u8) w V va.length va) (_vc : va.length ≤ e) (_vb : Byt va) 
    (g : Kd.C (Kd.int .u8) w K' lb.length lb) (hc' : lb.length ≤ c') (bb : Byt lb) 
    (_v' : Kd.C (Kd.int .u8) w V' vb.length vb) (_vc' : vb.length ≤ e') (_vb' : Byt vb) 
    (w1 : (Lit.int .u64 p0).wf = true) (w2 : (Lit.int .u64 q0).wf = true) :
    Calls Tryd.prog 6 #[.agg #[.bool d1, .slice K la.length c, .slice V va.length e], .agg #[.bool d2, .slice K' lb.length c', .slice V' vb.length e'], .int .u64 p0, .int .u64 q0] w fun x w' => x = .returned (.bool true) ∧ Below w.heap.size w w' := by
  simp [Lit.wf, IntKind.min, IntKind.max, IntKind.bits, IntKind.signed] at w1 w2
  by_cases hh : (((la.length : Int) ≤ 2147483647 ∧ (va.length : Int) ≤ 2147483647) ∧ ((lb.length : Int) ≤ 2147483647 ∧ (vb.length : Int) ≤ 2147483647))
  · obtain ⟨⟨h1, h2⟩, h3, h4⟩ := hh
    have hp := and_mask p0 w1.1 (by omega)
    have hq := and_mask q0 w2.1 (by omega)
    rcases icmp_three (ikey la (p0 % 72057594037927936) (kindOf d1)) (ikey lb (q0 % 72057594037927936) (kindOf d2)) with z | z | z
    · exact ikey_sep h hc ba g hc' bb h1 h2 h3 h4 hp hq (by omega) (by omega) (by omega) (by omega) z
    · exact ikey_zero h hc ba g hc' bb h1 h2 h3 h4 hp hq (by omega) (by omega) (by omega) (by omega) z
    · exact ikey_one h hc ba g hc' bb h1 h2 h3 h4 hp hq (by omega) (by omega) (by omega) (by omega) z
  · exact ikey_out hh
end Go.Proofs.YtpdibidfjhjoeaaDoor.Ik
