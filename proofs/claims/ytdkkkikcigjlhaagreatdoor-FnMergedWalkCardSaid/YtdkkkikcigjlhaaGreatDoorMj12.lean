/- The memory table: the search of a key. The memory table: the search of a key that notes nothing. -/
import Derived.Test.YtdkkkikcigjlhaaGreatDoorMj11
set_option linter.unusedVariables false
set_option linter.unusedSimpArgs false
namespace Go.Proofs.YtdkkkikcigjlhaaGreatDoor.Md
open Go.RowKit Go.Proofs.YtdkkkikcigjlhaaGreatDoor.Con Go.Proofs.YtdkkkikcigjlhaaGreatDoor.Run Go.Proofs.YtdkkkikcigjlhaaGreatDoorW.PrintWords Go.Proofs.YtdkkkikcigjlhaaGreatDoorW.PrintMore Go.Proofs.YtdkkkikcigjlhaaGreatDoor.Cmp Go.Sort

theorem key_cut {nd kv : List Int} {mh c : Nat} {x : Node} {Kx : Option Addr} (hx : NodeOk nd kv mh x) (hc : kv.length ≤ c) : ∃ (o : Nat) (A : Option Addr) (c' : Nat), G nd x.a = (o : Int) ∧ o + x.key.length ≤ kv.length ∧ (∀ W : World, (Instr.slice 25 (.slice Kx kv.length c) (some (.int .i64 (o : Int))) (some (.int .i64 ((o : Int) + (x.key.length : Int)))) none).run Tryz.prog W = .ok (.slice A x.key.length c') W) ∧
    ∀ W, Kd.C (Kd.int .u8) W Kx kv.length kv → Kd.C (Kd.int .u8) W A x.key.length x.key := by
  obtain ⟨i0, hi, hzz⟩ := Option.map_eq_some_iff.1 info_u8
  simp only [Prod.mk.injEq] at hzz
  obtain ⟨o, h1, h2, h3, h4⟩ := hx.cell
  obtain ⟨A, g1, g2, g3⟩ := print_mid_int (P := Tryz.prog) (k := .u8) 25 5 Tryz.underlying25 hi hzz.2.1 Kx c kv (o : Int) ((o : Int) + (x.key.length : Int)) (Int.natCast_nonneg _) (by omega) (by omega) hc
  have e1 : ((o : Int) + (x.key.length : Int)).toNat = o + x.key.length := by omega
  have e2 : (kv.take ((o : Int) + (x.key.length : Int)).toNat).drop ((o : Int)).toNat = x.key := by
    rw [e1, Int.toNat_natCast, List.drop_take, Nat.add_sub_cancel_left]
    exact h3
  rw [e2] at g1 g2 g3
  exact ⟨o, A, _, h1, by omega, g1, fun W hW => ints_C (g2 W (C_ints hW))⟩

def Seen (f : List Int → List Int → Int) (key : List Int) (A B R : List Node) (i x : Nat) (cv : Int) : Prop :=
  (cv < 0 ∧ ∃ A' B', A ++ B = A' ++ B' ∧ prv i A' = x ∧ B'.length + 1 ≤ B.length) ∨ (0 ≤ cv ∧ (∀ y ∈ B, y.h ≤ i) ∧ x = nxt i R ∧ (cv = 0 ↔ ∃ y ∈ R, x = y.a ∧ f y.key key = 0))

theorem seen_none {f : List Int → List Int → Int} {key : List Int} {A B R : List Node} {i : Nat} (h : nxt i (B ++ R) = 0) (ha : ∀ y ∈ B ++ R, 16 ≤ y.a) : Seen f key A B R i 0 1 := by
  rcases low_or_high i B with g | g
  · rw [nxt_app i B R g] at h
    refine .inr ⟨by decide, g, h.symm, fun e => by omega, fun ⟨y, hy, e, _⟩ => ?_⟩
    have := ha y (List.mem_append_right _ hy)
    omega
  · obtain ⟨_, _, _, _, _, y, hy, q⟩ := step_on (A := A) (R := R) g
    have := ha y (List.mem_append_left _ hy)
    omega

theorem seen_some {f : List Int → List Int → Int} {key : List Int} {A B R : List Node} {i x : Nat} (h : nxt i (B ++ R) = x) (hx : ¬ x = 0) (hB : ∀ y ∈ B, f y.key key < 0) (hR : ∀ y ∈ R, 0 ≤ f y.key key) (hap : (B ++ R).Pairwise Apart) (h1 : ∀ y ∈ B ++ R, 1 ≤ y.h) : ∃ y ∈ B ++ R, y.a = x ∧ Seen f key A B R i x (f y.key key) := by
  rcases low_or_high i B with g | g
  · rw [nxt_app i B R g] at h
    rcases nxt_is i R with q | ⟨y, hy, _, q⟩
    · exact absurd (h.symm.trans q) hx
    · refine ⟨y, List.mem_append_right _ hy, q.symm.trans h, .inr ⟨hR y hy, g, h.symm, fun e => ⟨y, hy, h.symm.trans q, e⟩, fun ⟨z, hz, e, e0⟩ => ?_⟩⟩
      rcases pair_ne hap (List.mem_append_right _ hy) (List.mem_append_right _ hz) with rfl | v | v
      · exact e0
      · have := h1 y (List.mem_append_right _ hy); omega
      · have := h1 z (List.mem_append_right _ hz); omega
  · obtain ⟨A', B', g1, g2, g3, y, hy, g4⟩ := step_on (A := A) (R := R) g
    exact ⟨y, List.mem_append_left _ hy, g4.symm.trans h, .inl ⟨hB y hy, A', B', g1, g2.trans h, g3⟩⟩

theorem grown_below {w w' : World} (hb : Below w.heap.size w w') (row : Option Nat) : w.grownBy w' row := ⟨hb.os, hb.tape, hb.output, hb.size, fun k hk _ => hb.block k hk⟩

theorem C_grown {w w' : World} {p n : Nat} {A : Option Addr} {l : List Int} (h : Kd.C (Kd.int .u8) w A n l) (hg : w.grownBy w' (some p)) (hne : 0 < n → ∀ a, A = some a → a.block ≠ p) : Kd.C (Kd.int .u8) w' A n l := by
  obtain ⟨h1, h2, h3⟩ := C_ints h
  refine ints_C ⟨h1, h2, fun hn => ?_⟩
  obtain ⟨a, ha, hc⟩ := h3 hn
  refine ⟨a, ha, fun j hj => hg.cell (hc j hj) ?_⟩
  have e : (a.add j).block = a.block := by unfold Addr.add; split <;> rfl
  rw [e]
  intro q
  injection q with q
  exact hne hn a ha q

def GeTold (w : World) (base p mh : Nat) (vk vn V : Value) (r : Nat) (l0 l4 n sz : Int) (q : Nat → Int) (kv nd key : List Int) (P R : List Node) (f : List Int → List Int → Int) (e : Ending) (w' : World) : Prop :=
  ∃ ex : Bool, e = .returned (.tuple #[.int .i64 ((nxt 0 R : Nat) : Int), .bool ex]) ∧ (ex = true ↔ ∃ x R', R = x :: R' ∧ f x.key key = 0) ∧ w.grownBy w' (some p) ∧
    ∃ cs' q', Tab w' base p cs' vk vn kv nd ∧ Cs cs' V r l0 l4 vk vn q' (mh : Int) n sz ∧ (∀ i, i < mh → q' i = ((prv i P : Nat) : Int)) ∧ ∀ i, mh ≤ i → q' i = q i

set_option maxHeartbeats 1600000 in
set_option maxRecDepth 100000 in
theorem GE_calls {w : World} {base p r mh c ck ca : Nat} {cs : Array Value} {V : Value} {N Kx A0 : Option Addr} {l0 l4 n sz : Int} {q : Nat → Int} {kv nd key : List Int} {ns P R : List Node} {f : List Int → List Int → Int}
    (hT : Tab w base p cs (.slice Kx kv.length ck) (.slice N nd.length c) kv nd) (hC : Cs cs V r l0 l4 (.slice Kx kv.length ck) (.slice N nd.length c) q (mh : Int) n sz) (hS : Skip nd kv mh ns) (hl : nd.length ≤ 1099511627776) (hkl : kv.length ≤ 1099511627776) (hck : kv.length ≤ ck)
    (hV : Cmpr V f) (hns : ns = P ++ R) (hP : ∀ x ∈ P, f x.key key < 0) (hR : ∀ x ∈ R, 0 ≤ f x.key key) (hs : Sorted f R) (hbk : Byt key) (hbv : ∀ x ∈ ns, Byt x.key)
    (hA : Kd.C (Kd.int .u8) w A0 key.length key) (hne : 0 < key.length → ∀ a, A0 = some a → a.block ≠ p) :
    Calls Tryz.prog 89 #[.pointer (some ⟨p, 0, none⟩), .slice A0 key.length ca, .bool true] w fun e w' => GeTold w base p mh (.slice Kx kv.length ck) (.slice N nd.length c) V r l0 l4 n sz q kv nd key P R f e w' := by
  have c22 : w.cell? ⟨p, 22, none⟩ = some (.int .i64 (mh : Int)) := (blk_cell hT.cell 22).trans hC.c22
  obtain ⟨T, u, K, rfl, hnil, hmeth, hcall, hcmp⟩ := hV.make
  have HT := Lib.hid hT
  have HC := Lib.hid hC
  have HS := Lib.hid hS
  have HL := Lib.hid (And.intro hl (And.intro hkl hck))
  have HV := Lib.hid hV
  have HP := Lib.hid (And.intro hns (And.intro hP (And.intro hR hs)))
  have HB := Lib.hid (And.intro hbk hbv)
  have HA := Lib.hid (And.intro hA hne)
  have HCMP := Lib.hid hcmp
  clear hT hC hS hl hkl hck hV hns hP hR hs hbk hbv hA hne hcmp
  have w1 : wrap64 ((mh : Int) - 1) = ((mh - 1 : Nat) : Int) := by
    have := HS.out.m1; have := HS.out.m12
    unfold wrap64; omega
  go_enter Tryz.func89, Tryz.ntmps89
  go_wp2
  go_loopg [8, 9] (12 * (ns.length + 1) + ns.length) (fun k v8 v9 w' => ∃ (A B : List Node) (i a : Nat) (cs' : Array Value) (q' : Nat → Int), v8 = .int .i64 (a : Int) ∧ v9 = .int .i64 (i : Int) ∧ Hid (a = prv i A ∧ P = A ++ B ∧ i < mh ∧ i * (ns.length + 1) + B.length ≤ k) ∧ Hid (w.grownBy w' (some p)) ∧ Hid (Tab w' base p cs' (.slice Kx kv.length ck) (.slice N nd.length c) kv nd) ∧ Hid (Cs cs' (.iface T u) r l0 l4 (.slice Kx kv.length ck) (.slice N nd.length c) q' (mh : Int) n sz) ∧ Hid ((∀ j, i < j → j < mh → q' j = ((prv j P : Nat) : Int)) ∧ ∀ j, mh ≤ j → q' j = q j))
  case atStart =>
    refine ⟨[], P, mh - 1, 0, cs, q, rfl, congrArg _ w1, Lib.hid ⟨rfl, rfl, by have := HS.out.m1; omega, ?_⟩, Lib.hid (World.grownBy.refl _ _), HT, HC, Lib.hid ⟨fun j _ _ => by omega, fun _ _ => rfl⟩⟩
    have h1 : (mh - 1) * (ns.length + 1) ≤ 12 * (ns.length + 1) := Nat.mul_le_mul_right _ (by have := HS.out.m12; omega)
    have h2 : P.length ≤ ns.length := by rw [HP.out.1, List.length_append]; omega
    omega
  case round =>
    obtain ⟨A, B, i, a, cs', q', rfl, rfl, HI, HG, HT', HC', HQ⟩ := hrel
    have hi := HI.out.2.2.1
    have hi12 : i < 12 := Nat.lt_of_lt_of_le hi HS.out.m12
    have hsp : ns = A ++ (B ++ R) := by rw [HP.out.1, HI.out.2.1, List.append_assoc]
    have hslot := HS.out.slot hsp hi12
    rw [← HI.out.1] at hslot
    obtain ⟨ad, hN, hx⟩ := HT'.out.at hslot
    have hv : G nd (a + 4 + i) = ((nxt i (B ++ R) : Nat) : Int) := by rw [HI.out.1]; exact HS.out.links A (B ++ R) hsp i hi12
    have d9 : wr.cell? ⟨p, 9, none⟩ = some (.slice N nd.length c) := (blk_cell HT'.out.cell 9).trans HC'.out.c9
    have d8 : wr.cell? ⟨p, 8, none⟩ = some (.slice Kx kv.length ck) := (blk_cell HT'.out.cell 8).trans HC'.out.c8
    have d0 : wr.cell? ⟨p, 0, none⟩ = some (.iface T u) := (blk_cell HT'.out.cell 0).trans HC'.out.c0
    rw [hv] at hx
    subst hN
    have hle := HL.out.1
    have a1 : wrap64 ((a : Int) + 4) = (a : Int) + 4 := by unfold wrap64; omega
    have a2 : wrap64 ((a : Int) + 4 + (i : Int)) = (a : Int) + 4 + (i : Int) := by unfold wrap64; omega
    have hlt : (a : Int) + 4 + (i : Int) < (nd.length : Int) := by omega
    have h0 : (0 : Int) ≤ (a : Int) + 4 + (i : Int) := by omega
    have e0 : ((a : Int) + 4 + (i : Int)).toNat = a + 4 + i := by omega
    have HSP := Lib.hid hsp
    clear hv hle hslot hsp hi12 c22 w1 HT HC
    generalize hnx : nxt i (B ++ R) = x at *
    have HX := Lib.hid hnx
    clear hnx
    go_upto_if 29 with (fail)
    go_cut [11] (fun v11 wc => ∃ cv : Int, v11 = .int .i64 cv ∧ Hid (Below wr.heap.size wr wc) ∧ Hid (Seen f key A B R i x cv))
    case first =>
      by_cases hx0 : x = 0
      · have z0 : ((x : Int) != 0) = false := by rw [bne_eq_false_iff_eq]; omega
        have HS0 : Hid (Seen f key A B R i x 1) := by
          have h := HX.out
          rw [hx0] at h ⊢
          exact seen_none h (fun y hy => (HS.out.ok y (by rw [HSP.out]; exact List.mem_append_right _ hy)).a)
        clear hx0
        go_wp2
        go_meet
        case rel => exact ⟨1, rfl, Lib.hid (Below.refl _ _), HS0⟩
      · obtain ⟨y, hy, hxy, hsn⟩ := seen_some (A := A) HX.out hx0 (fun y hy => HP.out.2.1 y (by rw [HI.out.2.1]; exact List.mem_append_right _ hy)) HP.out.2.2.1 (by have h := HS.out.apart; rw [HSP.out] at h; exact (List.pairwise_append.1 h).2.1) (fun y hy => (HS.out.ok y (by rw [HSP.out]; exact List.mem_append_right _ hy)).h1)
        have HSN := Lib.hid hsn
        have hym : y ∈ ns := by rw [HSP.out]; exact List.mem_append_right _ hy
        have hyo := HS.out.ok y hym
        have hye := hyo.end_
        have hy16 := hyo.a
        obtain ⟨o, Ay, cy, k1, k2, k3, k4⟩ := key_cut (Kx := Kx) hyo HL.out.2.2
        have x0 : wr.cell? (ad.add x) = some (.int .i64 (o : Int)) := by
          obtain ⟨ad', hN, h⟩ := HT'.out.at (i := x) (by omega)
          injection hN with hN
          rw [← hN, show G nd x = (o : Int) by rw [← hxy]; exact k1] at h
          exact h
        have x1 : wr.cell? ⟨ad.block, ad.off + (x + 1), none⟩ = some (.int .i64 (y.key.length : Int)) := by
          obtain ⟨ad', hN, h⟩ := HT'.out.at' (i := x + 1) (by omega)
          injection hN with hN
          rw [← hN, show G nd (x + 1) = (y.key.length : Int) by rw [← hxy]; exact hyo.kl] at h
          exact h
        have hle := HL.out
        have z0 : ((x : Int) != 0) = true := by rw [bne_iff_ne]; omega
        have b0 : (x : Int) < (nd.length : Int) := by omega
        have b1 : (x : Int) + 1 < (nd.length : Int) := by omega
        have b2 : (0 : Int) ≤ (x : Int) + 1 := by omega
        have b3 : ((x : Int) + 1).toNat = x + 1 := by omega
        have b4 : wrap64 ((x : Int) + 1) = (x : Int) + 1 := by unfold wrap64; omega
        have b5 : wrap64 ((o : Int) + (y.key.length : Int)) = (o : Int) + (y.key.length : Int) := by unfold wrap64; omega
        have BY := Lib.hid (HB.out.2 y hym)
        have HK : ∀ W, Below wr.heap.size wr W → Hid (Kd.C (Kd.int .u8) W Ay y.key.length y.key) := fun W hW => k4 W (ints_C (own_reads' (HT'.out.below hW).kv))
        have HA2 : ∀ W, Below wr.heap.size wr W → Hid (Kd.C (Kd.int .u8) W A0 key.length key) := fun W hW => C_grown HA.out.1 (HG.out.trans (grown_below hW _)) HA.out.2
        clear hx0 hym hyo hye hy16 hxy hle k4 k1 k2 hy hsn
        generalize y.key.length = kl at *
        go_upto_region 7 with (fail)
        have D0 := cell_regrown d0
        have D8 := cell_regrown d8
        have D9 := cell_regrown d9
        have X1 := cell_regrown x1
        have HW : ∀ d os, Hid (Below wr.heap.size wr (grow (redrawn wr d) os)) := fun d os => below_regrown wr d os
        refine wp_region_quiet_below (by kernel_rfl) (by kernel_rfl) ?_
        repeat (go_big_quiet_step (with_reducible refine Calls.regrown_of (HCMP.out _ _ _ _ _ _ _ _ _ (HK _ (HW _ _).out).out (HA2 _ (HW _ _).out).out BY.out HB.out.1)))
        refine wpQuiet_nil ?_
        intro _ hw'
        obtain ⟨⟨dq, osq⟩, hw''⟩ := hw'
        subst hw''
        have hbw := HW dq osq
        clear D0 D8 D9 X1 HW HK HA2
        generalize grow (redrawn wr dq) osq = W at *
        go_wp2
        go_meet
        case rel => exact ⟨_, rfl, hbw, HSN⟩
    case rest =>
      obtain ⟨cv, rfl, HBW, HSN⟩ := hcut
      have hT2 := HT'.out.below HBW.out
      have HG2 := Lib.hid (HG.out.trans (grown_below HBW.out (some p)))
      have HT2 := Lib.hid hT2
      clear hx d9 d8 d0 hT2 HG HT' hlt h0 e0 a1 a2
      rcases HSN.out with ⟨hneg, A', B', g1, g2, g3⟩ | ⟨hge, hlow, hxr, hz⟩
      · have z0 : decide (cv < 0) = true := decide_eq_true hneg
        have HX2 := Lib.hid (And.intro g1 (And.intro g2 g3))
        clear hneg g1 g2 g3 HSN
        go_wp2
        go_roundg (i * (ns.length + 1) + (B.length - 1))
        case measure => have := HI.out.2.2.2; have := HX2.out.2.2; omega
        case rel => exact ⟨A', B', i, x, cs', q', rfl, rfl, Lib.hid ⟨HX2.out.2.1.symm, HI.out.2.1.trans HX2.out.1, hi, by have := HX2.out.2.2; omega⟩, HG2, HT2, HC', HQ⟩
      · have z0 : decide (cv < 0) = false := decide_eq_false (by omega)
        have hi12 : i < 12 := Nat.lt_of_lt_of_le hi HS.out.m12
        have hT3 := HT2.out
        have e10 : wc.cell? ⟨p, 10 + i, none⟩ = some (.int .i64 (q' i)) := (blk_cell hT3.cell (10 + i)).trans (HC'.out.cq i hi12)
        have f10 : wc.frozen? ⟨p, 10 + i, none⟩ = false := blk_frozen hT3.cell (10 + i)
        have h12 : (i : Int) < 12 := by omega
        have hi0' : (0 : Int) ≤ (i : Int) := Int.natCast_nonneg _
        have ei : ((i : Int)).toNat = i := Int.toNat_natCast _
        have HD := Lib.hid (And.intro hge (And.intro hlow (And.intro hxr hz)))
        have HT4 := Lib.hid (hT3.set (10 + i) (.int .i64 (a : Int)))
        have HC4 := Lib.hid (HC'.out.setq hi12 (a : Int))
        have HG4 := Lib.hid (HG2.out.trans (grown_set wc p (10 + i) (.int .i64 (a : Int))))
        have HQ4 : Hid ((∀ j, i ≤ j → j < mh → (fun j => if j = i then (a : Int) else q' j) j = ((prv j P : Nat) : Int)) ∧ ∀ j, mh ≤ j → (fun j => if j = i then (a : Int) else q' j) j = q j) := Lib.hid ⟨fun j hj hjm => by
            by_cases e : j = i
            · subst e
              simp only [if_pos]
              rw [HI.out.1, HI.out.2.1, prv_low j A B hlow]
            · simp only [if_neg e]
              exact HQ.out.1 j (by omega) hjm, fun j hj => by
            have e : ¬ j = i := by omega
            simp only [if_neg e]
            exact HQ.out.2 j hj⟩
        clear hT3 hge hlow hxr hz hi12 HSN
        by_cases h0 : i = 0
        · have z2 : ((i : Int) == 0) = true := by rw [beq_iff_eq]; omega
          have HI0 := Lib.hid h0
          clear h0
          go_wp2
          go_ret2
          have hx0 := HD.out.2.2.1
          have hz := HD.out.2.2.2
          rw [HI0.out] at hx0
          refine ⟨(cv == 0), by rw [hx0]; rfl, ?_, HG4.out, _, _, HT4.out, HC4.out, fun j hj => HQ4.out.1 j (by have := HI0.out; omega) hj, HQ4.out.2⟩
          · rw [beq_iff_eq, hz]
            constructor
            · rintro ⟨y, hy, _, h0⟩
              obtain ⟨R', hR'⟩ := hit_first HV.out.ord HP.out.2.2.2 HP.out.2.2.1 hy h0
              exact ⟨y, R', hR', h0⟩
            · rintro ⟨y, R', hR', h0⟩
              have hym : y ∈ ns := by rw [HP.out.1, hR']; simp
              refine ⟨y, by rw [hR']; exact List.mem_cons_self, ?_, h0⟩
              rw [hx0, hR', nxt, if_pos (show 0 < y.h from (HS.out.ok y hym).h1)]
        · have z2 : ((i : Int) == 0) = false := by rw [beq_eq_false_iff_ne]; omega
          have HI0 := Lib.hid h0
          clear h0
          go_wp2
          go_roundg ((i - 1) * (ns.length + 1) + ns.length)
          case measure => exact down_less HI0.out HI.out.2.2.2
          case rel =>
            obtain ⟨A', B', g1, g2, _, g4⟩ := step_down (A := A) HD.out.2.1
            refine ⟨A', B', i - 1, a, _, _, rfl, ?_, Lib.hid ⟨by rw [g2]; exact HI.out.1, HI.out.2.1.trans g1, by omega, ?_⟩, HG4, HT4, HC4, Lib.hid ⟨fun j hj hjm => HQ4.out.1 j (by have := HI0.out; omega) hjm, HQ4.out.2⟩⟩
            · have := HI0.out
              have e : wrap64 ((i : Int) - 1) = ((i - 1 : Nat) : Int) := by unfold wrap64; omega
              first | exact congrArg _ e | go_num | (simp [e]; omega)
            · have h5 : (A ++ B).length ≤ ns.length := by
                have := congrArg List.length HP.out.1
                rw [HI.out.2.1, List.length_append] at this
                omega
              omega

def GfTold (w : World) (key : List Int) (R : List Node) (f : List Int → List Int → Int) (e : Ending) (w' : World) : Prop :=
  ∃ ex : Bool, e = .returned (.tuple #[.int .i64 ((nxt 0 R : Nat) : Int), .bool ex]) ∧ (ex = true ↔ ∃ x R', R = x :: R' ∧ f x.key key = 0) ∧ Below w.heap.size w w'

set_option maxHeartbeats 1600000 in
set_option maxRecDepth 100000 in
theorem GF_calls {w : World} {base p r mh c ck ca : Nat} {cs : Array Value} {V : Value} {N Kx A0 : Option Addr} {l0 l4 n sz : Int} {q : Nat → Int} {kv nd key : List Int} {ns P R : List Node} {f : List Int → List Int → Int}
    (hT : Tab w base p cs (.slice Kx kv.length ck) (.slice N nd.length c) kv nd) (hC : Cs cs V r l0 l4 (.slice Kx kv.length ck) (.slice N nd.length c) q (mh : Int) n sz) (hS : Skip nd kv mh ns) (hl : nd.length ≤ 1099511627776) (hkl : kv.length ≤ 1099511627776) (hck : kv.length ≤ ck)
    (hV : Cmpr V f) (hns : ns = P ++ R) (hP : ∀ x ∈ P, f x.key key < 0) (hR : ∀ x ∈ R, 0 ≤ f x.key key) (hs : Sorted f R) (hbk : Byt key) (hbv : ∀ x ∈ ns, Byt x.key)
    (hA : Kd.C (Kd.int .u8) w A0 key.length key) :
    Calls Tryz.prog 89 #[.pointer (some ⟨p, 0, none⟩), .slice A0 key.length ca, .bool false] w fun e w' => GfTold w key R f e w' := by
  have c22 : w.cell? ⟨p, 22, none⟩ = some (.int .i64 (mh : Int)) := (blk_cell hT.cell 22).trans hC.c22
  obtain ⟨T, u, K, rfl, hnil, hmeth, hcall, hcmp⟩ := hV.make
  have HT := Lib.hid hT
  have HC := Lib.hid hC
  have HS := Lib.hid hS
  have HL := Lib.hid (And.intro hl (And.intro hkl hck))
  have HV := Lib.hid hV
  have HP := Lib.hid (And.intro hns (And.intro hP (And.intro hR hs)))
  have HB := Lib.hid (And.intro hbk hbv)
  have HA := Lib.hid hA
  have HCMP := Lib.hid hcmp
  clear hT hC hS hl hkl hck hV hns hP hR hs hbk hbv hA hcmp
  have w1 : wrap64 ((mh : Int) - 1) = ((mh - 1 : Nat) : Int) := by
    have := HS.out.m1; have := HS.out.m12
    unfold wrap64; omega
  go_enter Tryz.func89, Tryz.ntmps89
  go_wp2
  go_loopg [8, 9] (12 * (ns.length + 1) + ns.length) (fun k v8 v9 w' => ∃ (A B : List Node) (i a : Nat), v8 = .int .i64 (a : Int) ∧ v9 = .int .i64 (i : Int) ∧ Hid (a = prv i A ∧ P = A ++ B ∧ i < mh ∧ i * (ns.length + 1) + B.length ≤ k) ∧ Hid (Below w.heap.size w w'))
  case atStart =>
    refine ⟨[], P, mh - 1, 0, rfl, congrArg _ w1, Lib.hid ⟨rfl, rfl, by have := HS.out.m1; omega, ?_⟩, Lib.hid (Below.refl _ _)⟩
    have h1 : (mh - 1) * (ns.length + 1) ≤ 12 * (ns.length + 1) := Nat.mul_le_mul_right _ (by have := HS.out.m12; omega)
    have h2 : P.length ≤ ns.length := by rw [HP.out.1, List.length_append]; omega
    omega
  case round =>
    obtain ⟨A, B, i, a, rfl, rfl, HI, HG⟩ := hrel
    have HT' := Lib.hid (HT.out.below HG.out)
    have HC' := Lib.hid HC.out
    have hi := HI.out.2.2.1
    have hi12 : i < 12 := Nat.lt_of_lt_of_le hi HS.out.m12
    have hsp : ns = A ++ (B ++ R) := by rw [HP.out.1, HI.out.2.1, List.append_assoc]
    have hslot := HS.out.slot hsp hi12
    rw [← HI.out.1] at hslot
    obtain ⟨ad, hN, hx⟩ := HT'.out.at hslot
    have hv : G nd (a + 4 + i) = ((nxt i (B ++ R) : Nat) : Int) := by rw [HI.out.1]; exact HS.out.links A (B ++ R) hsp i hi12
    have d9 : wr.cell? ⟨p, 9, none⟩ = some (.slice N nd.length c) := (blk_cell HT'.out.cell 9).trans HC'.out.c9
    have d8 : wr.cell? ⟨p, 8, none⟩ = some (.slice Kx kv.length ck) := (blk_cell HT'.out.cell 8).trans HC'.out.c8
    have d0 : wr.cell? ⟨p, 0, none⟩ = some (.iface T u) := (blk_cell HT'.out.cell 0).trans HC'.out.c0
    rw [hv] at hx
    subst hN
    have hle := HL.out.1
    have a1 : wrap64 ((a : Int) + 4) = (a : Int) + 4 := by unfold wrap64; omega
    have a2 : wrap64 ((a : Int) + 4 + (i : Int)) = (a : Int) + 4 + (i : Int) := by unfold wrap64; omega
    have hlt : (a : Int) + 4 + (i : Int) < (nd.length : Int) := by omega
    have h0 : (0 : Int) ≤ (a : Int) + 4 + (i : Int) := by omega
    have e0 : ((a : Int) + 4 + (i : Int)).toNat = a + 4 + i := by omega
    have HSP := Lib.hid hsp
    clear hv hle hslot hsp hi12 c22 w1
    generalize hnx : nxt i (B ++ R) = x at *
    have HX := Lib.hid hnx
    clear hnx
    go_upto_if 29 with (fail)
    go_cut [11] (fun v11 wc => ∃ cv : Int, v11 = .int .i64 cv ∧ Hid (Below wr.heap.size wr wc) ∧ Hid (Seen f key A B R i x cv))
    case first =>
      by_cases hx0 : x = 0
      · have z0 : ((x : Int) != 0) = false := by rw [bne_eq_false_iff_eq]; omega
        have HS0 : Hid (Seen f key A B R i x 1) := by
          have h := HX.out
          rw [hx0] at h ⊢
          exact seen_none h (fun y hy => (HS.out.ok y (by rw [HSP.out]; exact List.mem_append_right _ hy)).a)
        clear hx0
        go_wp2
        go_meet
        case rel => exact ⟨1, rfl, Lib.hid (Below.refl _ _), HS0⟩
      · obtain ⟨y, hy, hxy, hsn⟩ := seen_some (A := A) HX.out hx0 (fun y hy => HP.out.2.1 y (by rw [HI.out.2.1]; exact List.mem_append_right _ hy)) HP.out.2.2.1 (by have h := HS.out.apart; rw [HSP.out] at h; exact (List.pairwise_append.1 h).2.1) (fun y hy => (HS.out.ok y (by rw [HSP.out]; exact List.mem_append_right _ hy)).h1)
        have HSN := Lib.hid hsn
        have hym : y ∈ ns := by rw [HSP.out]; exact List.mem_append_right _ hy
        have hyo := HS.out.ok y hym
        have hye := hyo.end_
        have hy16 := hyo.a
        obtain ⟨o, Ay, cy, k1, k2, k3, k4⟩ := key_cut (Kx := Kx) hyo HL.out.2.2
        have x0 : wr.cell? (ad.add x) = some (.int .i64 (o : Int)) := by
          obtain ⟨ad', hN, h⟩ := HT'.out.at (i := x) (by omega)
          injection hN with hN
          rw [← hN, show G nd x = (o : Int) by rw [← hxy]; exact k1] at h
          exact h
        have x1 : wr.cell? ⟨ad.block, ad.off + (x + 1), none⟩ = some (.int .i64 (y.key.length : Int)) := by
          obtain ⟨ad', hN, h⟩ := HT'.out.at' (i := x + 1) (by omega)
          injection hN with hN
          rw [← hN, show G nd (x + 1) = (y.key.length : Int) by rw [← hxy]; exact hyo.kl] at h
          exact h
        have hle := HL.out
        have z0 : ((x : Int) != 0) = true := by rw [bne_iff_ne]; omega
        have b0 : (x : Int) < (nd.length : Int) := by omega
        have b1 : (x : Int) + 1 < (nd.length : Int) := by omega
        have b2 : (0 : Int) ≤ (x : Int) + 1 := by omega
        have b3 : ((x : Int) + 1).toNat = x + 1 := by omega
        have b4 : wrap64 ((x : Int) + 1) = (x : Int) + 1 := by unfold wrap64; omega
        have b5 : wrap64 ((o : Int) + (y.key.length : Int)) = (o : Int) + (y.key.length : Int) := by unfold wrap64; omega
        have BY := Lib.hid (HB.out.2 y hym)
        have HK : ∀ W, Below wr.heap.size wr W → Hid (Kd.C (Kd.int .u8) W Ay y.key.length y.key) := fun W hW => k4 W (ints_C (own_reads' (HT'.out.below hW).kv))
        have HA2 : ∀ W, Below wr.heap.size wr W → Hid (Kd.C (Kd.int .u8) W A0 key.length key) := fun W hW => Kd.C_below HA.out (below_then HG.out HG.out.size hW)
        clear hx0 hym hyo hye hy16 hxy hle k4 k1 k2 hy hsn
        generalize y.key.length = kl at *
        go_upto_region 7 with (fail)
        have D0 := cell_regrown d0
        have D8 := cell_regrown d8
        have D9 := cell_regrown d9
        have X1 := cell_regrown x1
        have HW : ∀ d os, Hid (Below wr.heap.size wr (grow (redrawn wr d) os)) := fun d os => below_regrown wr d os
        refine wp_region_quiet_below (by kernel_rfl) (by kernel_rfl) ?_
        repeat (go_big_quiet_step (with_reducible refine Calls.regrown_of (HCMP.out _ _ _ _ _ _ _ _ _ (HK _ (HW _ _).out).out (HA2 _ (HW _ _).out).out BY.out HB.out.1)))
        refine wpQuiet_nil ?_
        intro _ hw'
        obtain ⟨⟨dq, osq⟩, hw''⟩ := hw'
        subst hw''
        have hbw := HW dq osq
        clear D0 D8 D9 X1 HW HK HA2
        generalize grow (redrawn wr dq) osq = W at *
        go_wp2
        go_meet
        case rel => exact ⟨_, rfl, hbw, HSN⟩
    case rest =>
      obtain ⟨cv, rfl, HBW, HSN⟩ := hcut
      have HG2 := Lib.hid (below_then HG.out HG.out.size HBW.out)
      clear hx d9 d8 d0 HG HT' HC' hlt h0 e0 a1 a2
      rcases HSN.out with ⟨hneg, A', B', g1, g2, g3⟩ | ⟨hge, hlow, hxr, hz⟩
      · have z0 : decide (cv < 0) = true := decide_eq_true hneg
        have HX2 := Lib.hid (And.intro g1 (And.intro g2 g3))
        clear hneg g1 g2 g3 HSN
        go_wp2
        go_roundg (i * (ns.length + 1) + (B.length - 1))
        case measure => have := HI.out.2.2.2; have := HX2.out.2.2; omega
        case rel => exact ⟨A', B', i, x, rfl, rfl, Lib.hid ⟨HX2.out.2.1.symm, HI.out.2.1.trans HX2.out.1, hi, by have := HX2.out.2.2; omega⟩, HG2⟩
      · have z0 : decide (cv < 0) = false := decide_eq_false (by omega)
        have HD := Lib.hid (And.intro hge (And.intro hlow (And.intro hxr hz)))
        clear hge hlow hxr hz hi HSN
        by_cases hc0 : cv = 0
        · have z3 : (cv == 0) = true := by rw [beq_iff_eq]; exact hc0
          have HC0 := Lib.hid hc0
          clear hc0
          go_wp2
          go_ret2
          obtain ⟨y, hy, hxy, h0⟩ := HD.out.2.2.2.1 HC0.out
          obtain ⟨R', hR'⟩ := hit_first HV.out.ord HP.out.2.2.2 HP.out.2.2.1 hy h0
          have hym : y ∈ ns := by rw [HP.out.1, hR']; simp
          have e1 : nxt 0 R = x := by rw [hR', nxt, if_pos (show 0 < y.h from (HS.out.ok y hym).h1), hxy]
          exact ⟨true, by rw [e1]; rfl, ⟨fun _ => ⟨y, R', hR', h0⟩, fun _ => rfl⟩, HG2.out⟩
        · have z3 : (cv == 0) = false := by rw [beq_eq_false_iff_ne]; exact hc0
          have HC0 := Lib.hid hc0
          clear hc0
          by_cases h0 : i = 0
          · have z2 : ((i : Int) == 0) = true := by rw [beq_iff_eq]; omega
            have HI0 := Lib.hid h0
            clear h0
            go_wp2
            go_ret2
            have hx0 := HD.out.2.2.1
            have hz := HD.out.2.2.2
            rw [HI0.out] at hx0
            refine ⟨false, by rw [hx0]; rfl, ⟨(fun h => by cases h), ?_⟩, HG2.out⟩
            rintro ⟨y, R', hR', h0⟩
            have hym : y ∈ ns := by rw [HP.out.1, hR']; simp
            exact absurd (hz.2 ⟨y, by rw [hR']; exact List.mem_cons_self, by rw [hx0, hR', nxt, if_pos (show 0 < y.h from (HS.out.ok y hym).h1)], h0⟩) HC0.out
          · have z2 : ((i : Int) == 0) = false := by rw [beq_eq_false_iff_ne]; omega
            have HI0 := Lib.hid h0
            clear h0
            go_wp2
            go_roundg ((i - 1) * (ns.length + 1) + ns.length)
            case measure => exact down_less HI0.out HI.out.2.2.2
            case rel =>
              have hi := HI.out.2.2.1
              obtain ⟨A', B', g1, g2, _, g4⟩ := step_down (A := A) HD.out.2.1
              refine ⟨A', B', i - 1, a, rfl, ?_, Lib.hid ⟨by rw [g2]; exact HI.out.1, HI.out.2.1.trans g1, by omega, ?_⟩, HG2⟩
              · have := HI0.out
                have hm := HS.out.m12
                have e : wrap64 ((i : Int) - 1) = ((i - 1 : Nat) : Int) := by unfold wrap64; omega
                first | exact congrArg _ e | go_num | (simp [e]; omega)
              · have h5 : (A ++ B).length ≤ ns.length := by
                  have := congrArg List.length HP.out.1
                  rw [HI.out.2.1, List.length_append] at this
                  omega
                omega

end Go.Proofs.YtdkkkikcigjlhaaGreatDoor.Md
