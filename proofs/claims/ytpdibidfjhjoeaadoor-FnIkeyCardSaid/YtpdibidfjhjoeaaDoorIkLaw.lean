/- FnIkeys: the law's walk. -/
import Derived.Test.YtpdibidfjhjoeaaDoorIkSpecB
namespace Go.Proofs.YtpdibidfjhjoeaaDoor.Ik
open Go.RowKit Go.Sort Go.Proofs.YtpdibidfjhjoeaaDoorW.PrintWords Go.Proofs.YtpdibidfjhjoeaaDoorW.PrintMore Go.Proofs.YtpdibidfjhjoeaaDoor.Cmp Go.Proofs.YtpdibidfjhjoeaaDoor.Run Go.Proofs.YtpdibidfjhjoeaaDoor.Con Go.Proofs.YtpdibidfjhjoeaaDoor.Le Go.Proofs.YtpdibidfjhjoeaaDoor.Sep Go.Proofs.YtpdibidfjhjoeaaDoor.PFnIkeys
set_option linter.unusedVariables false

theorem ikey_byt {key : List Int} (h : Byt key) (seq kt : Int) : Byt (ikey key seq kt) := by
  intro x hx
  unfold ikey at hx
  rcases List.mem_append.1 hx with h1 | h1
  · exact h x h1
  · exact leB_byt _ x h1

theorem ikey_len (key : List Int) (seq kt : Int) : (ikey key seq kt).length = key.length + 8 := by simp [ikey, leB]
theorem ikey_take (key : List Int) (seq kt : Int) : (ikey key seq kt).take ((ikey key seq kt).length - 8) = key := by
  rw [ikey_len, Nat.add_sub_cancel]
  unfold ikey
  exact List.take_left' rfl
theorem ikey_num (key : List Int) (seq kt : Int) (s0 : 0 ≤ seq) (s1 : seq ≤ 72057594037927935) (k0 : 0 ≤ kt) (k1 : kt ≤ 1) : leN ((ikey key seq kt).drop ((ikey key seq kt).length - 8)) = seq * 256 + kt := by
  rw [ikey_len, Nat.add_sub_cancel]
  unfold ikey
  rw [List.drop_left' rfl]
  exact leN_leB _ (by omega) (by omega)

set_option maxHeartbeats 800000 in
set_option maxRecDepth 100000 in
theorem law_good {w : World} {A : Option Addr} {ca : Nat} {la : List Int} {B : Option Addr} {cb : Nat} {lb : List Int} {seq num kind sort : Int}
    (h : Kd.C (Kd.int .u8) w A la.length la) (hca : la.length ≤ ca) (ba : Byt la) (g : Kd.C (Kd.int .u8) w B lb.length lb) (hcb : lb.length ≤ cb) (bb : Byt lb)
    (h1 : la.length ≤ 2147483647) (h2 : lb.length ≤ 2147483647) (s0 : 0 ≤ seq) (s1 : seq ≤ 72057594037927935) (n0 : 0 ≤ num) (n1 : num ≤ 72057594037927935) (k0 : 0 ≤ kind) (k1 : kind ≤ 1) (t0 : 0 ≤ sort) (t1 : sort ≤ 1) :
    Calls Tryd.prog 5 #[.slice A la.length ca, .slice B lb.length cb, .int .u64 seq, .int .u64 num, .int .i64 kind, .int .i64 sort] w fun e w' => e = .returned (.bool true) ∧ Below w.heap.size w w' := by
  have hM1 := fun (w1 : World) (hb : Below w.heap.size w w1) => IkeyMake_calls (c := ca) (Kd.C_below h hb) h1 s0 s1 k0 k1
  have hM2 := fun (w1 : World) (hb : Below w.heap.size w w1) => IkeyMake_calls (c := cb) (Kd.C_below g hb) h2 n0 n1 t0 t1
  have hS := fun (w1 : World) (hb : Below w.heap.size w w1) => SpecIkey_r (Kd.C_below h hb) hca h1 s0 s1 k0 k1
  have HA := Lib.hid h
  have HCA := Lib.hid hca
  have lx : Hid (8 ≤ (ikey la seq kind).length ∧ (ikey la seq kind).length ≤ 4294967296) := by unfold Hid; rw [ikey_len]; omega
  have ly : Hid (8 ≤ (ikey lb num sort).length) := by unfold Hid; rw [ikey_len]; omega
  have bx := Lib.hid (ikey_byt ba seq kind)
  have by' := Lib.hid (ikey_byt bb num sort)
  have hx := Lib.hid (ikey_num la seq kind s0 s1 k0 k1)
  have ex := Lib.hid (ikey_take la seq kind)
  clear h g hca hcb ba bb
  generalize ikey la seq kind = x at *
  generalize ikey lb num sort = y at *
  have hP := fun (w1 : World) (X : Option Addr) (cx : Nat) (hr : Kd.C (Kd.int .u8) w1 X x.length x) => IkeyParse_calls (c := cx) hr bx.out lx.out.1 lx.out.2 hx.out s0 s1 k0 k1
  rw [ex.out] at hP
  go_enter Tryd.func5, Tryd.ntmps5
  go_wp2_with fail
  refine (hM1 w (Below.refl _ _)).mono ?_
  rintro e w1 ⟨X, cx, rfl, hr1, hcx1, hb1⟩
  have HX := Lib.hid hr1
  have HCX := Lib.hid hcx1
  clear hr1 hcx1
  go_wp2_with fail
  refine (hM2 w1 hb1).mono ?_
  rintro e w2 ⟨Y, cy, rfl, hr2, hcy2, hb2'⟩
  have hb2 := below_then hb1 hb1.size hb2'
  have HX2 := Lib.hid (Kd.C_below HX.out hb2')
  have HY := Lib.hid hr2
  have HCY := Lib.hid hcy2
  clear hr2 hcy2 hb2' HX
  go_wp2_with fail
  refine (hS w2 hb2).mono ?_
  rintro e w3 ⟨Z, cz, rfl, hr3, hcz3, hb3'⟩
  have hb3 := below_then hb2 hb2.size hb3'
  have HX3 := Lib.hid (Kd.C_below HX2.out hb3')
  have HY3 := Lib.hid (Kd.C_below HY.out hb3')
  have HZ := Lib.hid hr3
  have HCZ := Lib.hid hcz3
  clear hr3 hcz3 hb3' HX2 HY
  go_wp2_with fail
  refine (SpecSame_r true (decide_eq_true rfl) HX3.out HCX.out HZ.out HCZ.out).mono ?_
  rintro e w4 ⟨rfl, hb4'⟩
  have hb4 := below_then hb3 hb3.size hb4'
  have HX4 := Lib.hid (Kd.C_below HX3.out hb4')
  have HY4 := Lib.hid (Kd.C_below HY3.out hb4')
  clear hb4' HX3 HY3 HZ HCZ
  go_wp2_with fail
  refine (hP w4 X cx HX4.out).mono ?_
  rintro e w5 ⟨P, cp, rfl, hr5, hcp5, hb5'⟩
  have hb5 := below_then hb4 hb4.size hb5'
  have HX5 := Lib.hid (Kd.C_below HX4.out hb5')
  have HY5 := Lib.hid (Kd.C_below HY4.out hb5')
  have HK5 := Lib.hid hr5
  have HCK := Lib.hid hcp5
  clear hr5 hcp5 hb5' HX4 HY4
  have hC5 := Lib.hid (IkeyCompare_calls HX5.out HY5.out bx.out by'.out lx.out.1 ly.out HCX.out HCY.out)
  have hC6 := fun (w6 : World) (hb : Below w5.heap.size w5 w6) => SpecIkeyCompare_calls (Kd.C_below HX5.out hb) (Kd.C_below HY5.out hb) bx.out by'.out lx.out.1 ly.out HCX.out HCY.out
  generalize icmp x y = r at *
  go_wp2_with fail
  refine hC5.out.mono ?_
  rintro e w6 ⟨rfl, hb6'⟩
  have hb6 := below_then hb5 hb5.size hb6'
  have HK6 := Lib.hid (Kd.C_below HK5.out hb6')
  have HB6 := Lib.hid hb6'
  clear hb6' HK5
  go_wp2_with fail
  refine (SpecSame_r true (decide_eq_true rfl) HK6.out HCK.out (Kd.C_below HA.out hb6) HCA.out).mono ?_
  rintro e w7 ⟨rfl, hb7'⟩
  have hb7 := below_then hb6 hb6.size hb7'
  have HB7 := Lib.hid (below_then HB6.out HB6.out.size hb7')
  clear hb7' HB6
  go_wp2_with fail
  refine (hC6 w7 HB7.out).mono ?_
  rintro e w8 ⟨rfl, hb8'⟩
  have hb8 := below_then hb7 hb7.size hb8'
  go_wp2
  go_ret
  exact ⟨by first | rfl | (refine ret_v ?_; simp), hb8⟩

set_option maxHeartbeats 1600000 in
set_option maxRecDepth 100000 in
theorem law_out {w : World} {A : Option Addr} {ca la : Nat} {B : Option Addr} {cb lb : Nat} {seq num kind sort : Int}
    (h : ¬ ((la : Int) ≤ 2147483647 ∧ (lb : Int) ≤ 2147483647 ∧ seq ≤ 72057594037927935 ∧ num ≤ 72057594037927935 ∧ 0 ≤ kind ∧ kind ≤ 1 ∧ 0 ≤ sort ∧ sort ≤ 1)) :
    Calls Tryd.prog 5 #[.slice A la ca, .slice B lb cb, .int .u64 seq, .int .u64 num, .int .i64 kind, .int .i64 sort] w fun e w' => e = .returned (.bool true) ∧ Below w.heap.size w w' := by
  by_cases h1 : 2147483647 < (la : Int)
  · clear h
    go_enter Tryd.func5, Tryd.ntmps5
    go_wp2
    go_ret
    exact ⟨rfl, Below.refl _ _⟩
  · replace h1 : (la : Int) ≤ 2147483647 := by omega
    by_cases h2 : 2147483647 < (lb : Int)
    · clear h
      go_enter Tryd.func5, Tryd.ntmps5
      go_wp2
      go_ret
      exact ⟨rfl, Below.refl _ _⟩
    · replace h2 : (lb : Int) ≤ 2147483647 := by omega
      by_cases s1 : 72057594037927935 < seq
      · clear h
        go_enter Tryd.func5, Tryd.ntmps5
        go_wp2
        go_ret
        exact ⟨rfl, Below.refl _ _⟩
      · replace s1 : seq ≤ 72057594037927935 := by omega
        by_cases n1 : 72057594037927935 < num
        · clear h
          go_enter Tryd.func5, Tryd.ntmps5
          go_wp2
          go_ret
          exact ⟨rfl, Below.refl _ _⟩
        · replace n1 : num ≤ 72057594037927935 := by omega
          by_cases k0 : kind < 0
          · clear h
            go_enter Tryd.func5, Tryd.ntmps5
            go_wp2
            go_ret
            exact ⟨rfl, Below.refl _ _⟩
          · replace k0 : 0 ≤ kind := by omega
            by_cases k1 : 1 < kind
            · clear h
              go_enter Tryd.func5, Tryd.ntmps5
              go_wp2
              go_ret
              exact ⟨rfl, Below.refl _ _⟩
            · replace k1 : kind ≤ 1 := by omega
              by_cases t0 : sort < 0
              · clear h
                go_enter Tryd.func5, Tryd.ntmps5
                go_wp2
                go_ret
                exact ⟨rfl, Below.refl _ _⟩
              · replace t0 : 0 ≤ sort := by omega
                by_cases t1 : 1 < sort
                · clear h
                  go_enter Tryd.func5, Tryd.ntmps5
                  go_wp2
                  go_ret
                  exact ⟨rfl, Below.refl _ _⟩
                · replace t1 : sort ≤ 1 := by omega
                  exact absurd ⟨h1, h2, s1, n1, k0, k1, t0, t1⟩ h

theorem ikeys_walk (A : Option Addr) (ca : Nat) (la : List Int) (B : Option Addr) (cb : Nat) (lb : List Int) (seq num kind sort : Int) (w : World)
    (ha : Kd.C (Kd.int .u8) w A la.length la) (hca : la.length ≤ ca) (ba : Byt la) (_ma : la.length ≤ 140737488351232)
    (hb : Kd.C (Kd.int .u8) w B lb.length lb) (hcb : lb.length ≤ cb) (bb : Byt lb) (_mb : lb.length ≤ 140737488351232)
    (w1 : (Lit.int .u64 seq).wf = true) (w2 : (Lit.int .u64 num).wf = true) (_w3 : (Lit.int .i64 kind).wf = true) (_w4 : (Lit.int .i64 sort).wf = true) :
    Calls Tryd.prog 5 #[.slice A la.length ca, .slice B lb.length cb, .int .u64 seq, .int .u64 num, .int .i64 kind, .int .i64 sort] w fun e w' => e = .returned (.bool true) ∧ Below w.heap.size w w' := by
  have s0 : 0 ≤ seq := by
    simp [Lit.wf, IntKind.min, IntKind.max, IntKind.bits, IntKind.signed] at w1
    exact w1.1
  have n0 : 0 ≤ num := by
    simp [Lit.wf, IntKind.min, IntKind.max, IntKind.bits, IntKind.signed] at w2
    exact w2.1
  by_cases h : ((la.length : Int) ≤ 2147483647 ∧ (lb.length : Int) ≤ 2147483647 ∧ seq ≤ 72057594037927935 ∧ num ≤ 72057594037927935 ∧ 0 ≤ kind ∧ kind ≤ 1 ∧ 0 ≤ sort ∧ sort ≤ 1)
  · obtain ⟨h1, h2, s1, n1, k0, k1, t0, t1⟩ := h
    exact law_good ha hca ba hb hcb bb (by omega) (by omega) s0 s1 n0 n1 k0 k1 t0 t1
  · exact law_out h

end Go.Proofs.YtpdibidfjhjoeaaDoor.Ik
