/- The memory table: the last node ahead of a key. The memory table: how high a new node is: any height of 1 to 12. The memory table: what reads a cell under the lock. The memory table: Contains. -/
import Derived.Test.YtdkkkikcigjlhaaGreatDoorMj12
import Derived.Laws.Bits128
set_option linter.unusedVariables false
set_option linter.unusedSimpArgs false
namespace Go.Proofs.YtdkkkikcigjlhaaGreatDoor.Md
open Go.RowKit Go.Proofs.YtdkkkikcigjlhaaGreatDoor.Con Go.Proofs.YtdkkkikcigjlhaaGreatDoor.Run Go.Proofs.YtdkkkikcigjlhaaGreatDoorW.PrintWords Go.Proofs.YtdkkkikcigjlhaaGreatDoorW.PrintMore Go.Proofs.YtdkkkikcigjlhaaGreatDoor.Cmp Go.Sort

set_option maxHeartbeats 1600000 in
set_option maxRecDepth 100000 in
theorem LT_calls {w : World} {base p r mh c ck ca : Nat} {cs : Array Value} {V : Value} {N Kx A0 : Option Addr} {l0 l4 n sz : Int} {q : Nat → Int} {kv nd key : List Int} {ns P R : List Node} {f : List Int → List Int → Int}
    (hT : Tab w base p cs (.slice Kx kv.length ck) (.slice N nd.length c) kv nd) (hC : Cs cs V r l0 l4 (.slice Kx kv.length ck) (.slice N nd.length c) q (mh : Int) n sz) (hS : Skip nd kv mh ns) (hl : nd.length ≤ 1099511627776) (hkl : kv.length ≤ 1099511627776) (hck : kv.length ≤ ck)
    (hV : Cmpr V f) (hns : ns = P ++ R) (hP : ∀ x ∈ P, f x.key key < 0) (hR : ∀ x ∈ R, 0 ≤ f x.key key) (hs : Sorted f R) (hbk : Byt key) (hbv : ∀ x ∈ ns, Byt x.key)
    (hA : Kd.C (Kd.int .u8) w A0 key.length key) :
    Calls Tryz.prog 176 #[.pointer (some ⟨p, 0, none⟩), .slice A0 key.length ca] w fun e w' => e = .returned (.int .i64 ((prv 0 P : Nat) : Int)) ∧ Below w.heap.size w w' := by
  have c22 : w.cell? ⟨p, 22, none⟩ = some (.int .i64 (mh : Int)) := (blk_cell hT.cell 22).trans hC.c22
  obtain ⟨T, u, K, rfl, hnil, hmeth, hcall, hcmp⟩ := hV.make
  have HT := Lib.hid hT
  have HC := Lib.hid hC
  have HS := Lib.hid hS
  have HL := Lib.hid (And.intro hl (And.intro hkl hck))
  have HV := Lib.hid hV
  have HP := Lib.hid (And.intro hns (And.intro hP (And.intro hR hs)))
  have HB := Lib.hid (And.intro hbk hbv)
  have HA := Lib.hid hA
  have HCMP := Lib.hid hcmp
  clear hT hC hS hl hkl hck hV hns hP hR hs hbk hbv hA hcmp
  have w1 : wrap64 ((mh : Int) - 1) = ((mh - 1 : Nat) : Int) := by
    have := HS.out.m1; have := HS.out.m12
    unfold wrap64; omega
  go_enter Tryz.func176, Tryz.ntmps176
  go_wp2
  go_loopg [5, 6] (12 * (ns.length + 1) + ns.length) (fun k v5 v6 w' => ∃ (A B : List Node) (i a : Nat), v5 = .int .i64 (a : Int) ∧ v6 = .int .i64 (i : Int) ∧ Hid (a = prv i A ∧ P = A ++ B ∧ i < mh ∧ i * (ns.length + 1) + B.length ≤ k) ∧ Hid (Below w.heap.size w w'))
  case atStart =>
    refine ⟨[], P, mh - 1, 0, rfl, congrArg _ w1, Lib.hid ⟨rfl, rfl, by have := HS.out.m1; omega, ?_⟩, Lib.hid (Below.refl _ _)⟩
    have h1 : (mh - 1) * (ns.length + 1) ≤ 12 * (ns.length + 1) := Nat.mul_le_mul_right _ (by have := HS.out.m12; omega)
    have h2 : P.length ≤ ns.length := by rw [HP.out.1, List.length_append]; omega
    omega
  case round =>
    obtain ⟨A, B, i, a, rfl, rfl, HI, HG⟩ := hrel
    have HT' := Lib.hid (HT.out.below HG.out)
    have HC' := Lib.hid HC.out
    have hi := HI.out.2.2.1
    have hi12 : i < 12 := Nat.lt_of_lt_of_le hi HS.out.m12
    have hsp : ns = A ++ (B ++ R) := by rw [HP.out.1, HI.out.2.1, List.append_assoc]
    have hslot := HS.out.slot hsp hi12
    rw [← HI.out.1] at hslot
    obtain ⟨ad, hN, hx⟩ := HT'.out.at hslot
    have hv : G nd (a + 4 + i) = ((nxt i (B ++ R) : Nat) : Int) := by rw [HI.out.1]; exact HS.out.links A (B ++ R) hsp i hi12
    have d9 : wr.cell? ⟨p, 9, none⟩ = some (.slice N nd.length c) := (blk_cell HT'.out.cell 9).trans HC'.out.c9
    have d8 : wr.cell? ⟨p, 8, none⟩ = some (.slice Kx kv.length ck) := (blk_cell HT'.out.cell 8).trans HC'.out.c8
    have d0 : wr.cell? ⟨p, 0, none⟩ = some (.iface T u) := (blk_cell HT'.out.cell 0).trans HC'.out.c0
    rw [hv] at hx
    subst hN
    have hle := HL.out.1
    have a1 : wrap64 ((a : Int) + 4) = (a : Int) + 4 := by unfold wrap64; omega
    have a2 : wrap64 ((a : Int) + 4 + (i : Int)) = (a : Int) + 4 + (i : Int) := by unfold wrap64; omega
    have hlt : (a : Int) + 4 + (i : Int) < (nd.length : Int) := by omega
    have h0 : (0 : Int) ≤ (a : Int) + 4 + (i : Int) := by omega
    have e0 : ((a : Int) + 4 + (i : Int)).toNat = a + 4 + i := by omega
    have HSP := Lib.hid hsp
    clear hv hle hslot hsp hi12 c22 w1
    generalize hnx : nxt i (B ++ R) = x at *
    have HX := Lib.hid hnx
    clear hnx
    have hxl : x < nd.length := by
      rcases nxt_is i (B ++ R) with q | ⟨y, hy, _, q⟩
      · have := HS.out.len
        rw [HX.out] at q
        omega
      · have := HS.out.ok y (by rw [HSP.out]; exact List.mem_append_right _ hy)
        have h1 := this.end_
        rw [HX.out] at q
        omega
    have x0 : wr.cell? (ad.add x) = some (.int .i64 (G nd x)) := by
      obtain ⟨ad', hN, h⟩ := HT'.out.at (i := x) hxl
      injection hN with hN
      rw [← hN] at h
      exact h
    have b0 : (x : Int) < (nd.length : Int) := by omega
    generalize hgo : G nd x = go at *
    have HGO := Lib.hid hgo
    clear hgo
    go_upto_region 5 with (fail)
    go_cut [59] (fun v59 wc => ∃ (cv : Int) (b : Bool), v59 = .bool b ∧ Hid (b = decide (0 ≤ cv)) ∧ Hid (Below wr.heap.size wr wc) ∧ Hid (Seen f key A B R i x cv))
    case first =>
      have HW : ∀ d os, Hid (Below wr.heap.size wr (grow (redrawn wr d) os)) := fun d os => below_regrown wr d os
      by_cases hx0 : x = 0
      · have z0 : ((x : Int) == 0) = true := by rw [beq_iff_eq]; omega
        have HS0 : Hid (Seen f key A B R i x 1) := by
          have h := HX.out
          rw [hx0] at h ⊢
          exact seen_none h (fun y hy => (HS.out.ok y (by rw [HSP.out]; exact List.mem_append_right _ hy)).a)
        clear hx0
        refine wp_region_quiet_below (by kernel_rfl) (by kernel_rfl) ?_
        repeat (go_big_quiet_step (fail))
        refine wpQuiet_nil ?_
        intro _ hw'
        obtain ⟨⟨dq, osq⟩, hw''⟩ := hw'
        subst hw''
        have hbw := HW dq osq
        clear HW
        generalize grow (redrawn wr dq) osq = W at *
        go_wp2
        go_meet
        case rel => exact ⟨1, _, rfl, Lib.hid (by decide), hbw, HS0⟩
      · obtain ⟨y, hy, hxy, hsn⟩ := seen_some (A := A) HX.out hx0 (fun y hy => HP.out.2.1 y (by rw [HI.out.2.1]; exact List.mem_append_right _ hy)) HP.out.2.2.1 (by have h := HS.out.apart; rw [HSP.out] at h; exact (List.pairwise_append.1 h).2.1) (fun y hy => (HS.out.ok y (by rw [HSP.out]; exact List.mem_append_right _ hy)).h1)
        have HSN := Lib.hid hsn
        have hym : y ∈ ns := by rw [HSP.out]; exact List.mem_append_right _ hy
        have hyo := HS.out.ok y hym
        have hye := hyo.end_
        have hy16 := hyo.a
        obtain ⟨o, Ay, cy, k1, k2, k3, k4⟩ := key_cut (Kx := Kx) hyo HL.out.2.2
        have ego : go = (o : Int) := by rw [← HGO.out, ← hxy]; exact k1
        subst ego
        have x1 : wr.cell? ⟨ad.block, ad.off + (x + 1), none⟩ = some (.int .i64 (y.key.length : Int)) := by
          obtain ⟨ad', hN, h⟩ := HT'.out.at' (i := x + 1) (by omega)
          injection hN with hN
          rw [← hN, show G nd (x + 1) = (y.key.length : Int) by rw [← hxy]; exact hyo.kl] at h
          exact h
        have hle := HL.out
        have z0 : ((x : Int) == 0) = false := by rw [beq_eq_false_iff_ne]; omega
        have b1 : (x : Int) + 1 < (nd.length : Int) := by omega
        have b2 : (0 : Int) ≤ (x : Int) + 1 := by omega
        have b3 : ((x : Int) + 1).toNat = x + 1 := by omega
        have b4 : wrap64 ((x : Int) + 1) = (x : Int) + 1 := by unfold wrap64; omega
        have b5 : wrap64 ((o : Int) + (y.key.length : Int)) = (o : Int) + (y.key.length : Int) := by unfold wrap64; omega
        have BY := Lib.hid (HB.out.2 y hym)
        have HK : ∀ W, Below wr.heap.size wr W → Hid (Kd.C (Kd.int .u8) W Ay y.key.length y.key) := fun W hW => k4 W (ints_C (own_reads' (HT'.out.below hW).kv))
        have HA2 : ∀ W, Below wr.heap.size wr W → Hid (Kd.C (Kd.int .u8) W A0 key.length key) := fun W hW => Kd.C_below HA.out (below_then HG.out HG.out.size hW)
        clear hx0 hym hyo hye hy16 hxy hle k4 k1 k2 hy hsn
        generalize y.key.length = kl at *
        have D0 := cell_regrown d0
        have D8 := cell_regrown d8
        have D9 := cell_regrown d9
        have X1 := cell_regrown x1
        refine wp_region_quiet_below (by kernel_rfl) (by kernel_rfl) ?_
        repeat (go_big_quiet_step (with_reducible refine Calls.regrown_of (HCMP.out _ _ _ _ _ _ _ _ _ (HK _ (HW _ _).out).out (HA2 _ (HW _ _).out).out BY.out HB.out.1)))
        refine wpQuiet_nil ?_
        intro _ hw'
        obtain ⟨⟨dq, osq⟩, hw''⟩ := hw'
        subst hw''
        have hbw := HW dq osq
        clear D0 D8 D9 X1 HW HK HA2
        generalize grow (redrawn wr dq) osq = W at *
        go_wp2
        go_meet
        case rel => exact ⟨_, _, rfl, Lib.hid rfl, hbw, HSN⟩
    case rest =>
      obtain ⟨cv, b, rfl, HBB, HBW, HSN⟩ := hcut
      have HG2 := Lib.hid (below_then HG.out HG.out.size HBW.out)
      clear hx d9 d8 d0 HG HT' HC' hlt h0 e0 a1 a2 x0 b0 hxl
      rcases HSN.out with ⟨hneg, A', B', g1, g2, g3⟩ | ⟨hge, hlow, hxr, hz⟩
      · have z0 : b = false := HBB.out.trans (decide_eq_false (by omega))
        clear HBB
        subst z0
        have HX2 := Lib.hid (And.intro g1 (And.intro g2 g3))
        clear hneg g1 g2 g3 HSN
        go_wp2
        go_roundg (i * (ns.length + 1) + (B.length - 1))
        case measure => have := HI.out.2.2.2; have := HX2.out.2.2; omega
        case rel => exact ⟨A', B', i, x, rfl, rfl, Lib.hid ⟨HX2.out.2.1.symm, HI.out.2.1.trans HX2.out.1, hi, by have := HX2.out.2.2; omega⟩, HG2⟩
      · have z0 : b = true := HBB.out.trans (decide_eq_true hge)
        clear HBB
        subst z0
        have HD := Lib.hid hlow
        clear hge hlow hxr hz hi HSN
        by_cases h0 : i = 0
        · have z2 : ((i : Int) == 0) = true := by rw [beq_iff_eq]; omega
          have HI0 := Lib.hid h0
          clear h0
          go_wp2
          go_ret
          have hd := HD.out
          rw [HI0.out] at hd
          exact ⟨ret_int (by rw [HI.out.1, HI.out.2.1, HI0.out, prv_low 0 A B hd]), HG2.out⟩
        · have z2 : ((i : Int) == 0) = false := by rw [beq_eq_false_iff_ne]; omega
          have HI0 := Lib.hid h0
          clear h0
          go_wp2
          go_roundg ((i - 1) * (ns.length + 1) + ns.length)
          case measure => exact down_less HI0.out HI.out.2.2.2
          case rel =>
            have hi := HI.out.2.2.1
            obtain ⟨A', B', g1, g2, _, g4⟩ := step_down (A := A) HD.out
            refine ⟨A', B', i - 1, a, rfl, ?_, Lib.hid ⟨by rw [g2]; exact HI.out.1, HI.out.2.1.trans g1, by omega, ?_⟩, HG2⟩
            · have := HI0.out
              have hm := HS.out.m12
              have e : wrap64 ((i : Int) - 1) = ((i - 1 : Nat) : Int) := by unfold wrap64; omega
              first | exact congrArg _ e | go_num | (simp [e]; omega)
            · have h5 : (A ++ B).length ≤ ns.length := by
                have := congrArg List.length HP.out.1
                rw [HI.out.2.1, List.length_append] at this
                omega
              omega

theorem carry_le (x y k : Nat) (hx : x < 18446744073709551616) (hy : y < 18446744073709551616) (hk : k ≤ 1) : (x + y + k) / 18446744073709551616 = 0 ∨ (x + y + k) / 18446744073709551616 = 1 := by
  have : (x + y + k) / 18446744073709551616 < 2 := by
    rw [Nat.div_lt_iff_lt_mul (by decide)]
    omega
  omega

theorem m64_is : Extern.MathBitsCarry.m64 = 18446744073709551616 := by decide

theorem u64_range (n : Int) : 0 ≤ IntKind.u64.wrap n ∧ IntKind.u64.wrap n < 18446744073709551616 := by
  rw [IntKind.wrap_u64]
  exact ⟨Int.emod_nonneg _ (by decide), Int.emod_lt_of_pos _ (by decide)⟩

theorem carry_is (x y : Int) (k : Nat) (hx : 0 ≤ x ∧ x < 18446744073709551616) (hy : 0 ≤ y ∧ y < 18446744073709551616) (hk : k ≤ 1) : Int.ofNat ((x.toNat + y.toNat + k) / Extern.MathBitsCarry.m64) = 0 ∨ Int.ofNat ((x.toNat + y.toNat + k) / Extern.MathBitsCarry.m64) = 1 := by
  rw [m64_is]
  rcases carry_le x.toNat y.toNat k (by omega) (by omega) hk with h | h
  · exact .inl (by rw [h]; rfl)
  · exact .inr (by rw [h]; rfl)

theorem add64 (x y z : Int) (hz : z = 0 ∨ z = 1) : ∃ a b : Int, (∀ W : World, (callFunc 208 #[.int .u64 x, .int .u64 y, .int .u64 z]).run Tryz.prog W = .ok (.value (.tuple #[.int .u64 a, .int .u64 b])) W) ∧ (0 ≤ x ∧ x < 18446744073709551616 → 0 ≤ y ∧ y < 18446744073709551616 → b = 0 ∨ b = 1) := by
  rcases hz with rfl | rfl
  · exact ⟨Int.ofNat ((x.toNat + y.toNat + (0 : Int).toNat) % Extern.MathBitsCarry.m64), Int.ofNat ((x.toNat + y.toNat + (0 : Int).toNat) / Extern.MathBitsCarry.m64), fun W => by kernel_rfl, fun hx hy => carry_is x y 0 hx hy (by decide)⟩
  · exact ⟨Int.ofNat ((x.toNat + y.toNat + (1 : Int).toNat) % Extern.MathBitsCarry.m64), Int.ofNat ((x.toNat + y.toNat + (1 : Int).toNat) / Extern.MathBitsCarry.m64), fun W => by kernel_rfl, fun hx hy => carry_is x y 1 hx hy (by decide)⟩

def Pcg (W : World) (g : Nat) : Prop := ∃ hi lo : Int, W.heap[g]? = some (.cells #[.int .u64 hi, .int .u64 lo] 230 (0, 0))

def NextTold (w : World) (g : Nat) (e : Ending) (w' : World) : Prop := ∃ a b : Int, e = .returned (.tuple #[.int .u64 a, .int .u64 b]) ∧ Pcg w' g ∧ w.grownBy w' (some g)

set_option maxHeartbeats 1600000 in
set_option maxRecDepth 100000 in
theorem next_calls {w : World} {g : Nat} (h : Pcg w g) :
    Calls Tryz.prog 206 #[.pointer (some ⟨g, 0, none⟩)] w fun e w' => NextTold w g e w' := by
  obtain ⟨hi, lo, hc⟩ := h
  have c0 : w.cell? ⟨g, 0, none⟩ = some (.int .u64 hi) := (blk_cell hc 0).trans rfl
  have c1 : w.cell? ⟨g, 1, none⟩ = some (.int .u64 lo) := (blk_cell hc 1).trans rfl
  have f0 := blk_frozen hc 0
  have f1 := blk_frozen hc 1
  have HC := Lib.hid hc
  clear hc
  go_enter Tryz.func206, Tryz.ntmps206
  go_upto_region 1 with (fail)
  go_cut [2, 3] (fun v2 v3 wc => ∃ a b : Int, v2 = .int .u64 a ∧ v3 = .int .u64 b ∧ Hid (0 ≤ b ∧ b < 18446744073709551616) ∧ w = wc)
  case first =>
    go_wp2
    go_meet
    case rel => exact ⟨_, _, rfl, rfl, Lib.hid (u64_range _), rfl⟩
  case rest =>
    obtain ⟨a, b, rfl, rfl, hrb, rfl⟩ := hcut
    go_upto_region 2 with (fail)
    go_cut [2] (fun v2 wc => ∃ a : Int, v2 = .int .u64 a ∧ ∃ d os, wc = grow (redrawn w d) os)
    case first =>
      have D0 := cell_regrown c0
      have D1 := cell_regrown c1
      refine wp_region_quiet_below (by kernel_rfl) (by kernel_rfl) ?_
      repeat (go_big_quiet_step (fail))
      refine wpQuiet_nil ?_
      intro _ hw'
      obtain ⟨⟨dq, osq⟩, hw''⟩ := hw'
      subst hw''
      go_wp2
      go_meet
      case rel => exact ⟨_, rfl, dq, osq, rfl⟩
    case rest =>
      obtain ⟨a2, rfl, dq, osq, rfl⟩ := hcut
      have hb := below_regrown w dq osq
      generalize grow (redrawn w dq) osq = W at *
      have HB := Lib.hid hb
      have HCW := Lib.hid ((hb.block g (blk_lt HC.out)).trans HC.out)
      have e0 : W.cell? ⟨g, 0, none⟩ = some (.int .u64 hi) := (blk_cell HCW.out 0).trans rfl
      have e1 : W.cell? ⟨g, 1, none⟩ = some (.int .u64 lo) := (blk_cell HCW.out 1).trans rfl
      have g0 := blk_frozen HCW.out 0
      have g1 := blk_frozen HCW.out 1
      clear hb c0 c1 f0 f1
      obtain ⟨p1, p2, hadd, hcar⟩ := add64 b 1442695040888963407 0 (.inl rfl)
      have HCAR := Lib.hid (hcar hrb.out (by decide))
      clear hcar
      go_upto_region 3 with (fail)
      go_cut [3, 4] (fun v3 v4 wc => ∃ a b : Int, v3 = .int .u64 a ∧ v4 = .int .u64 b ∧ Hid (b = 0 ∨ b = 1) ∧ W = wc)
      case first =>
        go_wp2
        go_meet
        case rel => exact ⟨_, _, rfl, rfl, HCAR, rfl⟩
      case rest =>
        obtain ⟨a3, b3, rfl, rfl, HC3, rfl⟩ := hcut
        clear hadd
        obtain ⟨p3, p4, hadd, _⟩ := add64 a2 6364136223846793005 b3 HC3.out
        go_upto_region 4 with (fail)
        go_cut [2] (fun v2 wc => ∃ a : Int, v2 = .int .u64 a ∧ W = wc)
        case first =>
          go_wp2
          go_meet
          case rel => exact ⟨_, rfl, rfl⟩
        case rest =>
          obtain ⟨a4, rfl, rfl⟩ := hcut
          go_wp2
          go_ret2
          refine ⟨a4, a3, rfl, ⟨a4, a3, ?_⟩, (grown_below HB.out _).trans ((grown_set _ _ _ _).trans (grown_set _ _ _ _))⟩
          exact (blk_set (blk_set HCW.out 1 _) 0 _).trans rfl

def U64Told (w : World) (g : Nat) (e : Ending) (w' : World) : Prop := ∃ a : Int, e = .returned (.int .u64 a) ∧ Pcg w' g ∧ w.grownBy w' (some g)

set_option maxHeartbeats 1600000 in
set_option maxRecDepth 100000 in
theorem Uint64_calls {w : World} {g : Nat} (h : Pcg w g) :
    Calls Tryz.prog 205 #[.pointer (some ⟨g, 0, none⟩)] w fun e w' => U64Told w g e w' := by
  have hn := Lib.hid (next_calls h)
  clear h
  go_enter Tryz.func205, Tryz.ntmps205
  go_wp2_with (go_at_call 206; (with_reducible refine hn.out.mono ?_); rintro e w1 ⟨a, b, rfl, h1, h2⟩)
  go_ret
  exact ⟨_, rfl, h1, h2⟩

def Rnd (W : World) (r g : Nat) : Prop := W.heap[r]? = some (.cells #[.iface 172 (.pointer (some ⟨g, 0, none⟩))] 228 (0, 0)) ∧ Pcg W g ∧ r ≠ g

def IntTold (w : World) (g : Nat) (e : Ending) (w' : World) : Prop := ∃ a : Int, e = .returned (.int .i64 a) ∧ Pcg w' g ∧ w.grownBy w' (some g)

theorem nil_rnd (a : Addr) (w : World) : (nilAhead 418 172 (.pointer (some a)) "Uint64").run Tryz.prog w = .ok (some false) w := by kernel_rfl
theorem meth_rnd (a : Addr) (w : World) : (method 418 172 (.pointer (some a)) "Uint64").run Tryz.prog w = .ok (205, .pointer (some a)) w := by kernel_rfl

set_option maxHeartbeats 1600000 in
set_option maxRecDepth 100000 in
theorem Int_calls {w : World} {r g : Nat} (h : Rnd w r g) :
    Calls Tryz.prog 118 #[.pointer (some ⟨r, 0, none⟩)] w fun e w' => IntTold w g e w' := by
  have e0 : w.cell? ⟨r, 0, none⟩ = some (.iface 172 (.pointer (some ⟨g, 0, none⟩))) := (blk_cell h.1 0).trans rfl
  have hn := Lib.hid (Uint64_calls h.2.1)
  have n1 := nil_rnd ⟨g, 0, none⟩
  have n2 := meth_rnd ⟨g, 0, none⟩
  clear h
  go_enter Tryz.func118, Tryz.ntmps118
  go_wp2_with (go_at_call 205; (with_reducible refine hn.out.mono ?_); rintro e w1 ⟨a, rfl, h1, h2⟩)
  go_ret
  exact ⟨_, rfl, h1, h2⟩

def HeightTold (w : World) (r g : Nat) (e : Ending) (w' : World) : Prop := ∃ h : Nat, e = .returned (.int .i64 (h : Int)) ∧ 1 ≤ h ∧ h ≤ 12 ∧ Rnd w' r g ∧ w.grownBy w' (some g)

theorem Rnd.grown {w w' : World} {r g : Nat} (h : Rnd w r g) (hg : w.grownBy w' (some g)) (hp : Pcg w' g) : Rnd w' r g :=
  ⟨(hg.block r (blk_lt h.1) (fun e => h.2.2 (by injection e))).trans h.1, hp, h.2.2⟩

set_option maxHeartbeats 1600000 in
set_option maxRecDepth 100000 in
theorem Height_calls {w : World} {p r g : Nat} (h : Rnd w r g) (hp : w.cell? ⟨p, 1, none⟩ = some (.pointer (some ⟨r, 0, none⟩))) (hpg : p ≠ g) :
    Calls Tryz.prog 90 #[.pointer (some ⟨p, 0, none⟩)] w fun e w' => HeightTold w r g e w' := by
  have H := Lib.hid h
  have HP := Lib.hid hp
  clear h hp
  go_enter Tryz.func90, Tryz.ntmps90
  go_wp2
  go_loopg [2] 12 (fun k v2 w' => ∃ h : Nat, v2 = .int .i64 (h : Int) ∧ Hid (1 ≤ h ∧ h ≤ 12 ∧ 12 - h ≤ k) ∧ Hid (Rnd w' r g) ∧ Hid (w.grownBy w' (some g)))
  case atStart => exact ⟨1, rfl, Lib.hid (by decide), H, Lib.hid (World.grownBy.refl _ _)⟩
  case round =>
    obtain ⟨h, rfl, HH, HR, HG⟩ := hrel
    have c1 : wr.cell? ⟨p, 1, none⟩ = some (.pointer (some ⟨r, 0, none⟩)) := HG.out.cell HP.out (fun e => hpg (by injection e))
    have hI := Lib.hid (Int_calls HR.out)
    by_cases h12 : h < 12
    · have z : decide ((h : Int) < 12) = true := decide_eq_true (by omega)
      have HL := Lib.hid h12
      have w1 : wrap64 ((h : Int) + 1) = ((h + 1 : Nat) : Int) := by unfold wrap64; omega
      clear h12
      go_upto_if 13 with (go_at_call 118; (with_reducible refine hI.out.mono ?_); rintro e w2 ⟨a, rfl, h1, h2⟩)
      generalize (a.tmod 4 == 0) = b
      have h3 := World.grownBy.trans HG.out h2
      have hr3 := HR.out.grown h2 h1
      cases b
      · go_wp2
        go_ret
        exact ⟨h, rfl, HH.out.1, HH.out.2.1, hr3, h3⟩
      · have H3 := Lib.hid (And.intro h3 hr3)
        clear h1 h2 h3 hr3
        go_wp2
        go_roundg (gk - 1)
        case measure => have := HH.out.2.2; have := HL.out; omega
        case rel => exact ⟨h + 1, (by first | exact congrArg _ w1 | go_num), Lib.hid ⟨by omega, HL.out, by have := HH.out.2.2; omega⟩, Lib.hid H3.out.2, Lib.hid H3.out.1⟩
    · have z : decide ((h : Int) < 12) = false := decide_eq_false (by omega)
      have HL := Lib.hid h12
      clear h12
      go_wp2
      go_ret
      exact ⟨h, rfl, HH.out.1, HH.out.2.1, HR.out, HG.out⟩

end Go.Proofs.YtdkkkikcigjlhaaGreatDoor.Md

namespace Go.Proofs.YtdkkkikcigjlhaaGreatDoor.Md
open Go.RowKit Go.Proofs.YtdkkkikcigjlhaaGreatDoor.Con Go.Proofs.YtdkkkikcigjlhaaGreatDoor.Run Go.Proofs.YtdkkkikcigjlhaaGreatDoorW.PrintWords Go.Proofs.YtdkkkikcigjlhaaGreatDoorW.PrintMore Go.Proofs.YtdkkkikcigjlhaaGreatDoor.Cmp Go.Sort Go.RwLone

theorem up1 : wrap32 (0 + 1) = 1 := by kernel_rfl
theorem down1 : wrap32 (1 + -1) = 0 := by kernel_rfl

def RestTold (w : World) (base p : Nat) (vk vn V : Value) (r : Nat) (mh n sz : Int) (q : Nat → Int) (kv nd : List Int) (w' : World) : Prop :=
  w.grownBy w' (some p) ∧ ∃ cs', Tab w' base p cs' vk vn kv nd ∧ Cs cs' V r 0 0 vk vn q mh n sz

set_option maxHeartbeats 1600000 in
set_option maxRecDepth 100000 in
theorem Len_calls {w : World} {base p r : Nat} {cs : Array Value} {V vk vn : Value} {mh n sz : Int} {q : Nat → Int} {kv nd : List Int} (hT : Tab w base p cs vk vn kv nd) (hC : Cs cs V r 0 0 vk vn q mh n sz) :
    Calls Tryz.prog 76 #[.pointer (some ⟨p, 0, none⟩)] w fun e w' => e = .returned (.int .i64 n) ∧ RestTold w base p vk vn V r mh n sz q kv nd w' := by
  have c2 : w.cell? ⟨p, 2, none⟩ = some (.int .i32 0) := (blk_cell hT.cell 2).trans hC.c2
  have c5 : w.cell? ⟨p, 5, none⟩ = some (.int .u32 0) := (blk_cell hT.cell 5).trans hC.c5
  have c4 : w.cell? ⟨p, 4, none⟩ = some (.int .u32 0) := (blk_cell hT.cell 4).trans hC.c4
  have c6 : w.cell? ⟨p, 6, none⟩ = some (.int .i32 0) := (blk_cell hT.cell 6).trans hC.c6
  have c23 : w.cell? ⟨p, 23, none⟩ = some (.int .i64 n) := (blk_cell hT.cell 23).trans hC.c23
  have f6 := blk_frozen hT.cell 6
  have HT1 := Lib.hid (hT.set 6 (.int .i32 1))
  have HT := Lib.hid ((hT.set 6 (.int .i32 1)).set 6 (.int .i32 0))
  have HC1 := Lib.hid (hC.set6 1)
  have HC := Lib.hid ((hC.set6 1).set6 0)
  clear hT hC
  go_enter_defers Tryz.func76, Tryz.ntmps76
  go_wp2_with (fail)
  refine (rlock_open rwRLib p 2 0 _ _ _ c2 c5 c6 f6 (by rw [up1]; decide)).mono ?_
  rintro e w' ⟨rfl, rfl⟩
  simp only [up1, show 2 + 4 = 6 from rfl]
  go_wp2_with (fail)
  refine leaves_cons (f := 92) (args := #[.pointer (some ⟨p, 2, none⟩)]) (by simp) (by simp [go_sem]) ?_
  refine (runlock_deferred rwRLib p 2 1 (.int .i32 0) (.int .u32 0) .returning _ ((blk_cell HT1.out.cell 2).trans HC1.out.c2) ((blk_cell HT1.out.cell 4).trans HC1.out.c4) ((blk_cell HT1.out.cell 6).trans HC1.out.c6) (blk_frozen HT1.out.cell 6) (by rw [down1]; decide)).mono ?_
  rintro e u' w'' ⟨rfl, rfl, rfl⟩
  rw [down1]
  exact ⟨_, results_tmp rfl _ _ _, rfl, (grown_set _ _ _ _).trans (grown_set _ _ _ _), _, HT.out, HC.out⟩

set_option maxHeartbeats 1600000 in
set_option maxRecDepth 100000 in
theorem Size_calls {w : World} {base p r : Nat} {cs : Array Value} {V vk vn : Value} {mh n sz : Int} {q : Nat → Int} {kv nd : List Int} (hT : Tab w base p cs vk vn kv nd) (hC : Cs cs V r 0 0 vk vn q mh n sz) :
    Calls Tryz.prog 77 #[.pointer (some ⟨p, 0, none⟩)] w fun e w' => e = .returned (.int .i64 sz) ∧ RestTold w base p vk vn V r mh n sz q kv nd w' := by
  have c2 : w.cell? ⟨p, 2, none⟩ = some (.int .i32 0) := (blk_cell hT.cell 2).trans hC.c2
  have c5 : w.cell? ⟨p, 5, none⟩ = some (.int .u32 0) := (blk_cell hT.cell 5).trans hC.c5
  have c4 : w.cell? ⟨p, 4, none⟩ = some (.int .u32 0) := (blk_cell hT.cell 4).trans hC.c4
  have c6 : w.cell? ⟨p, 6, none⟩ = some (.int .i32 0) := (blk_cell hT.cell 6).trans hC.c6
  have c24 : w.cell? ⟨p, 24, none⟩ = some (.int .i64 sz) := (blk_cell hT.cell 24).trans hC.c24
  have f6 := blk_frozen hT.cell 6
  have HT1 := Lib.hid (hT.set 6 (.int .i32 1))
  have HT := Lib.hid ((hT.set 6 (.int .i32 1)).set 6 (.int .i32 0))
  have HC1 := Lib.hid (hC.set6 1)
  have HC := Lib.hid ((hC.set6 1).set6 0)
  clear hT hC
  go_enter_defers Tryz.func77, Tryz.ntmps77
  go_wp2_with (fail)
  refine (rlock_open rwRLib p 2 0 _ _ _ c2 c5 c6 f6 (by rw [up1]; decide)).mono ?_
  rintro e w' ⟨rfl, rfl⟩
  simp only [up1, show 2 + 4 = 6 from rfl]
  go_wp2_with (fail)
  refine leaves_cons (f := 92) (args := #[.pointer (some ⟨p, 2, none⟩)]) (by simp) (by simp [go_sem]) ?_
  refine (runlock_deferred rwRLib p 2 1 (.int .i32 0) (.int .u32 0) .returning _ ((blk_cell HT1.out.cell 2).trans HC1.out.c2) ((blk_cell HT1.out.cell 4).trans HC1.out.c4) ((blk_cell HT1.out.cell 6).trans HC1.out.c6) (blk_frozen HT1.out.cell 6) (by rw [down1]; decide)).mono ?_
  rintro e u' w'' ⟨rfl, rfl, rfl⟩
  rw [down1]
  exact ⟨_, results_tmp rfl _ _ _, rfl, (grown_set _ _ _ _).trans (grown_set _ _ _ _), _, HT.out, HC.out⟩

def HasTold (w : World) (base p : Nat) (vk vn V : Value) (r : Nat) (mh n sz : Int) (q : Nat → Int) (kv nd key : List Int) (R : List Node) (f : List Int → List Int → Int) (e : Ending) (w' : World) : Prop :=
  ∃ ex : Bool, e = .returned (.bool ex) ∧ (ex = true ↔ ∃ x R', R = x :: R' ∧ f x.key key = 0) ∧ RestTold w base p vk vn V r mh n sz q kv nd w'

set_option maxHeartbeats 1600000 in
set_option maxRecDepth 100000 in
theorem Has_calls {w : World} {base p r mh c ck ca : Nat} {cs : Array Value} {V : Value} {N Kx A0 : Option Addr} {n sz : Int} {q : Nat → Int} {kv nd key : List Int} {ns P R : List Node} {f : List Int → List Int → Int}
    (hT : Tab w base p cs (.slice Kx kv.length ck) (.slice N nd.length c) kv nd) (hC : Cs cs V r 0 0 (.slice Kx kv.length ck) (.slice N nd.length c) q (mh : Int) n sz) (hS : Skip nd kv mh ns) (hl : nd.length ≤ 1099511627776) (hkl : kv.length ≤ 1099511627776) (hck : kv.length ≤ ck)
    (hV : Cmpr V f) (hns : ns = P ++ R) (hP : ∀ x ∈ P, f x.key key < 0) (hR : ∀ x ∈ R, 0 ≤ f x.key key) (hs : Sorted f R) (hbk : Byt key) (hbv : ∀ x ∈ ns, Byt x.key)
    (hA : Kd.C (Kd.int .u8) w A0 key.length key) (hne : 0 < key.length → ∀ a, A0 = some a → a.block ≠ p) :
    Calls Tryz.prog 74 #[.pointer (some ⟨p, 0, none⟩), .slice A0 key.length ca] w fun e w' => HasTold w base p (.slice Kx kv.length ck) (.slice N nd.length c) V r (mh : Int) n sz q kv nd key R f e w' := by
  have c2 : w.cell? ⟨p, 2, none⟩ = some (.int .i32 0) := (blk_cell hT.cell 2).trans hC.c2
  have c5 : w.cell? ⟨p, 5, none⟩ = some (.int .u32 0) := (blk_cell hT.cell 5).trans hC.c5
  have c6 : w.cell? ⟨p, 6, none⟩ = some (.int .i32 0) := (blk_cell hT.cell 6).trans hC.c6
  have f6 := blk_frozen hT.cell 6
  have hT1 := hT.set 6 (.int .i32 1)
  have hC1 := hC.set6 1
  have hg1 := grown_set w p 6 (.int .i32 1)
  have HGF := Lib.hid (GF_calls (ca := ca) hT1 hC1 hS hl hkl hck hV hns hP hR hs hbk hbv (C_grown hA hg1 hne))
  have HT1 := Lib.hid hT1
  have HC1 := Lib.hid hC1
  have HG1 := Lib.hid hg1
  clear hT hC hS hl hkl hck hV hns hP hR hs hbk hbv hA hne hT1 hC1 hg1
  go_enter Tryz.func74, Tryz.ntmps74
  go_wp2_with (fail)
  refine (rlock_open rwRLib p 2 0 _ _ _ c2 c5 c6 f6 (by rw [up1]; decide)).mono ?_
  rintro e w' ⟨rfl, rfl⟩
  simp only [up1, show 2 + 4 = 6 from rfl]
  generalize w.setCell ⟨p, 6, none⟩ (.int .i32 1) = w1 at *
  go_wp2_with (go_at_call 89; (with_reducible refine HGF.out.mono ?_); rintro e w2 ⟨ex, rfl, hex, hb2⟩)
  have HT2 := Lib.hid (HT1.out.below hb2)
  refine (runlock_held rwRLib p 2 1 (.int .i32 0) (.int .u32 0) _ ((blk_cell HT2.out.cell 2).trans HC1.out.c2) ((blk_cell HT2.out.cell 4).trans HC1.out.c4) ((blk_cell HT2.out.cell 6).trans HC1.out.c6) (blk_frozen HT2.out.cell 6) (by rw [down1]; decide)).mono ?_
  rintro e w'' ⟨rfl, rfl⟩
  simp only [down1, show 2 + 4 = 6 from rfl]
  have HX := Lib.hid (And.intro hex hb2)
  clear hex hb2
  go_wp2
  go_ret
  exact ⟨ex, rfl, HX.out.1, HG1.out.trans ((grown_below HX.out.2 _).trans (grown_set _ _ _ _)), _, HT2.out.set 6 _, HC1.out.set6 0⟩

end Go.Proofs.YtdkkkikcigjlhaaGreatDoor.Md
