/- The memory table: Get and Find. The memory table: what a call keeps; a number of the row is written. The laws' own bounds: fewPairs. -/
import Derived.Test.YtdkkkikcigjlhaaGreatDoorMj13
import Derived.Test.YtdkkkikcigjlhaaGreatDoorMj11
set_option linter.unusedVariables false
set_option linter.unusedSimpArgs false
namespace Go.Proofs.YtdkkkikcigjlhaaGreatDoor.Md
open Go.RowKit Go.Proofs.YtdkkkikcigjlhaaGreatDoor.Con Go.Proofs.YtdkkkikcigjlhaaGreatDoor.Run Go.Proofs.YtdkkkikcigjlhaaGreatDoorW.PrintWords Go.Proofs.YtdkkkikcigjlhaaGreatDoorW.PrintMore Go.Proofs.YtdkkkikcigjlhaaGreatDoor.Cmp Go.Sort Go.RwLone

def Cut (kv : List Int) (Kx A : Option Addr) (l : List Int) : Prop := ∀ W : World, Kd.C (Kd.int .u8) W Kx kv.length kv → Kd.C (Kd.int .u8) W A l.length l

theorem wz {n : Int} (h0 : 0 ≤ n) (h1 : n < 9223372036854775808) : wrap64 n = n := by unfold wrap64; omega

theorem iz {n : Int} (h0 : 0 ≤ n) (h1 : n < 9223372036854775808) : IntKind.i64.wrap n = n := by rw [IntKind.wrap_i64]; omega

theorem still_all {P : Program} {id : Nat} {Q : Exit → Act → World → Prop} {a : Act} {w : World} {l : List Oper} (hm : P.follows .mixedOrders = true) (hB : Region.lexB .any l.toArray = true)
    (h : ∀ W, W = w.drew → wpStill P l.toArray W (fun a' => Q .normal a' W) l a) : (Code.region id l.toArray true).wp P Q a w :=
  wp_region_still_lit hm hB (h _ rfl)
theorem drew_cell {w W : World} (h : W = w.drew) {a : Addr} {v : Value} (hc : w.cell? a = some v) : W.cell? a = some v := by subst h; exact hc
theorem drew_below {w W : World} (h : W = w.drew) : Below w.heap.size w W := by subst h; exact below_drew (Below.refl _ _)

theorem node_sums {a n : Nat} (h1 : a + 4 ≤ n) (hn : n ≤ 1099511627776) :
    (a : Int) < (n : Int) ∧ (a : Int) + 1 < (n : Int) ∧ (a : Int) + 2 < (n : Int) ∧ (0 : Int) ≤ (a : Int) + 1 ∧ (0 : Int) ≤ (a : Int) + 2 ∧ ((a : Int) + 1).toNat = a + 1 ∧ ((a : Int) + 2).toNat = a + 2 ∧ wrap64 ((a : Int) + 1) = (a : Int) + 1 ∧ wrap64 ((a : Int) + 2) = (a : Int) + 2 ∧ IntKind.i64.wrap ((a : Int) + 1) = (a : Int) + 1 ∧ IntKind.i64.wrap ((a : Int) + 2) = (a : Int) + 2 :=
  ⟨by omega, by omega, by omega, by omega, by omega, by omega, by omega, wz (by omega) (by omega), wz (by omega) (by omega), iz (by omega) (by omega), iz (by omega) (by omega)⟩
theorem kv_sums {o kl vl m : Nat} (h2 : o + kl + vl ≤ m) (hm : m ≤ 1099511627776) :
    wrap64 ((o : Int) + (kl : Int)) = (o : Int) + (kl : Int) ∧ wrap64 ((o : Int) + (kl : Int) + (vl : Int)) = (o : Int) + (kl : Int) + (vl : Int) ∧ IntKind.i64.wrap ((o : Int) + (kl : Int)) = (o : Int) + (kl : Int) ∧ IntKind.i64.wrap ((o : Int) + (kl : Int) + (vl : Int)) = (o : Int) + (kl : Int) + (vl : Int) :=
  ⟨wz (by omega) (by omega), wz (by omega) (by omega), iz (by omega) (by omega), iz (by omega) (by omega)⟩

theorem kv_cut {nd kv : List Int} {mh c : Nat} {x : Node} {Kx : Option Addr} (hx : NodeOk nd kv mh x) (hc : kv.length ≤ c) : ∃ (o : Nat) (A B : Option Addr) (c' d' : Nat), G nd x.a = (o : Int) ∧ o + x.key.length + x.val.length ≤ kv.length ∧
    (∀ W : World, (Instr.slice 25 (.slice Kx kv.length c) (some (.int .i64 (o : Int))) (some (.int .i64 ((o : Int) + (x.key.length : Int)))) none).run Tryz.prog W = .ok (.slice A x.key.length c') W) ∧
    (∀ W : World, (Instr.slice 25 (.slice Kx kv.length c) (some (.int .i64 ((o : Int) + (x.key.length : Int)))) (some (.int .i64 ((o : Int) + (x.key.length : Int) + (x.val.length : Int)))) none).run Tryz.prog W = .ok (.slice B x.val.length d') W) ∧
    x.key.length ≤ c' ∧ x.val.length ≤ d' ∧ Cut kv Kx A x.key ∧ Cut kv Kx B x.val := by
  obtain ⟨i0, hi, hzz⟩ := Option.map_eq_some_iff.1 info_u8
  simp only [Prod.mk.injEq] at hzz
  obtain ⟨o, h1, h2, h3, h4⟩ := hx.cell
  obtain ⟨A, g1, g2, g3⟩ := print_mid_int (P := Tryz.prog) (k := .u8) 25 5 Tryz.underlying25 hi hzz.2.1 Kx c kv (o : Int) ((o : Int) + (x.key.length : Int)) (Int.natCast_nonneg _) (by omega) (by omega) hc
  obtain ⟨B, k1, k2, k3⟩ := print_mid_int (P := Tryz.prog) (k := .u8) 25 5 Tryz.underlying25 hi hzz.2.1 Kx c kv ((o : Int) + (x.key.length : Int)) ((o : Int) + (x.key.length : Int) + (x.val.length : Int)) (by omega) (by omega) (by omega) hc
  have e1 : ((o : Int) + (x.key.length : Int)).toNat = o + x.key.length := by omega
  have e2 : (kv.take ((o : Int) + (x.key.length : Int)).toNat).drop ((o : Int)).toNat = x.key := by
    rw [e1, Int.toNat_natCast, List.drop_take, Nat.add_sub_cancel_left]
    exact h3
  have e3 : ((o : Int) + (x.key.length : Int) + (x.val.length : Int)).toNat = o + x.key.length + x.val.length := by omega
  have e4 : (kv.take ((o : Int) + (x.key.length : Int) + (x.val.length : Int)).toNat).drop ((o : Int) + (x.key.length : Int)).toNat = x.val := by
    rw [e1, e3, List.drop_take, Nat.add_sub_cancel_left]
    exact h4
  rw [e2] at g1 g2 g3
  rw [e4] at k1 k2 k3
  exact ⟨o, A, B, _, _, h1, h2, g1, k1, g3, k3, fun W hW => ints_C (g2 W (C_ints hW)), fun W hW => ints_C (k2 W (C_ints hW))⟩

def GetTold (w : World) (base p : Nat) (Kx : Option Addr) (ck : Nat) (vn V : Value) (r : Nat) (mh n sz : Int) (q : Nat → Int) (kv nd key : List Int) (R : List Node) (f : List Int → List Int → Int) (er : Value) (e : Ending) (w' : World) : Prop :=
  ((∃ x R', R = x :: R' ∧ f x.key key = 0 ∧ ∃ A c, e = .returned (.tuple #[.slice A x.val.length c, .nilIface]) ∧ x.val.length ≤ c ∧ Cut kv Kx A x.val) ∨
    ((¬ ∃ x R', R = x :: R' ∧ f x.key key = 0) ∧ e = .returned (.tuple #[.slice none 0 0, er]))) ∧ RestTold w base p (.slice Kx kv.length ck) vn V r mh n sz q kv nd w'

set_option maxHeartbeats 1600000 in
set_option maxRecDepth 100000 in
theorem Get_calls {w : World} {base p r mh c ck ca : Nat} {cs : Array Value} {V er : Value} {N Kx A0 : Option Addr} {n sz : Int} {q : Nat → Int} {kv nd key : List Int} {ns P R : List Node} {f : List Int → List Int → Int}
    (hT : Tab w base p cs (.slice Kx kv.length ck) (.slice N nd.length c) kv nd) (hC : Cs cs V r 0 0 (.slice Kx kv.length ck) (.slice N nd.length c) q (mh : Int) n sz) (hS : Skip nd kv mh ns) (hl : nd.length ≤ 1099511627776) (hkl : kv.length ≤ 1099511627776) (hck : kv.length ≤ ck)
    (hV : Cmpr V f) (hns : ns = P ++ R) (hP : ∀ x ∈ P, f x.key key < 0) (hR : ∀ x ∈ R, 0 ≤ f x.key key) (hs : Sorted f R) (hbk : Byt key) (hbv : ∀ x ∈ ns, Byt x.key)
    (hA : Kd.C (Kd.int .u8) w A0 key.length key) (hne : 0 < key.length → ∀ a, A0 = some a → a.block ≠ p) (hE : w.cell? ⟨0, 0, none⟩ = some er) (hp0 : 0 ≠ p) :
    Calls Tryz.prog 73 #[.pointer (some ⟨p, 0, none⟩), .slice A0 key.length ca] w fun e w' => GetTold w base p Kx ck (.slice N nd.length c) V r (mh : Int) n sz q kv nd key R f er e w' := by
  have c2 : w.cell? ⟨p, 2, none⟩ = some (.int .i32 0) := (blk_cell hT.cell 2).trans hC.c2
  have c5 : w.cell? ⟨p, 5, none⟩ = some (.int .u32 0) := (blk_cell hT.cell 5).trans hC.c5
  have c6 : w.cell? ⟨p, 6, none⟩ = some (.int .i32 0) := (blk_cell hT.cell 6).trans hC.c6
  have f6 := blk_frozen hT.cell 6
  have hT1 := hT.set 6 (.int .i32 1)
  have hC1 := hC.set6 1
  have hg1 := grown_set w p 6 (.int .i32 1)
  have hE1 : (w.setCell ⟨p, 6, none⟩ (.int .i32 1)).cell? ⟨0, 0, none⟩ = some er := hg1.cell hE (fun e => hp0 (by injection e))
  have HGF := Lib.hid (GF_calls (ca := ca) hT1 hC1 hS hl hkl hck hV hns hP hR hs hbk hbv (C_grown hA hg1 hne))
  have HT1 := Lib.hid hT1
  have HC1 := Lib.hid hC1
  have HG1 := Lib.hid hg1
  have HE1 := Lib.hid hE1
  have HS := Lib.hid hS
  have HL := Lib.hid (And.intro hl (And.intro hkl hck))
  have HNS := Lib.hid hns
  clear hT hC hS hl hkl hck hV hns hP hR hs hbk hbv hA hne hT1 hC1 hg1 hE hE1
  go_enter Tryz.func73, Tryz.ntmps73
  go_wp2_with (fail)
  refine (rlock_open rwRLib p 2 0 _ _ _ c2 c5 c6 f6 (by rw [up1]; decide)).mono ?_
  rintro e w' ⟨rfl, rfl⟩
  simp only [up1, show 2 + 4 = 6 from rfl]
  generalize w.setCell ⟨p, 6, none⟩ (.int .i32 1) = w1 at *
  go_upto_if 19 with (go_at_call 89; (with_reducible refine HGF.out.mono ?_); rintro e w2 ⟨ex, rfl, hex, hb2⟩)
  have HT2 := Lib.hid (HT1.out.below hb2)
  have HX := Lib.hid (And.intro hex hb2)
  clear hex hb2
  cases ex with
  | false =>
    have e0 : w2.cell? ⟨0, 0, none⟩ = some er := pw_cell_below HX.out.2 HE1.out
    go_wp2_with (fail)
    refine (runlock_held rwRLib p 2 1 (.int .i32 0) (.int .u32 0) _ ((blk_cell HT2.out.cell 2).trans HC1.out.c2) ((blk_cell HT2.out.cell 4).trans HC1.out.c4) ((blk_cell HT2.out.cell 6).trans HC1.out.c6) (blk_frozen HT2.out.cell 6) (by rw [down1]; decide)).mono ?_
    rintro e w'' ⟨rfl, rfl⟩
    simp only [down1, show 2 + 4 = 6 from rfl]
    go_wp2
    go_ret2
    exact ⟨.inr ⟨fun h => (by cases HX.out.1.2 h), rfl⟩, HG1.out.trans ((grown_below HX.out.2 _).trans (grown_set _ _ _ _)), _, HT2.out.set 6 _, HC1.out.set6 0⟩
  | true =>
    obtain ⟨x, R', hR', hx0⟩ := HX.out.1.1 rfl
    have hym : x ∈ ns := by rw [HNS.out, hR']; simp
    have hxo := HS.out.ok x hym
    have hye := hxo.end_
    have hy16 := hxo.a
    have hy1 := hxo.h1
    have e1 : nxt 0 R = x.a := by rw [hR', nxt, if_pos (by omega)]
    obtain ⟨o, Ak, Av, ck', cv', k1, k2, k3, k4, k5, k6, k7, k8⟩ := kv_cut (Kx := Kx) hxo HL.out.2.2
    obtain ⟨ad, hN, x0⟩ := HT2.out.at (i := x.a) (by omega)
    have x1 : w2.cell? ⟨ad.block, ad.off + (x.a + 1), none⟩ = some (.int .i64 (x.key.length : Int)) := by
      obtain ⟨ad', hN', h⟩ := HT2.out.at' (i := x.a + 1) (by omega)
      injection hN.symm.trans hN' with e
      subst e
      rw [hxo.kl] at h
      exact h
    have x2 : w2.cell? ⟨ad.block, ad.off + (x.a + 2), none⟩ = some (.int .i64 (x.val.length : Int)) := by
      obtain ⟨ad', hN', h⟩ := HT2.out.at' (i := x.a + 2) (by omega)
      injection hN.symm.trans hN' with e
      subst e
      rw [hxo.vl] at h
      exact h
    have hN2 := hN
    subst hN2
    rw [k1] at x0
    have d9 : w2.cell? ⟨p, 9, none⟩ = some (.slice (some ad) nd.length c) := (blk_cell HT2.out.cell 9).trans HC1.out.c9
    have d8 : w2.cell? ⟨p, 8, none⟩ = some (.slice Kx kv.length ck) := (blk_cell HT2.out.cell 8).trans HC1.out.c8
    obtain ⟨b0, b1, b1', b2, b2', b3, b3', b4, b4', b7, b7'⟩ := node_sums (a := x.a) (n := nd.length) (by omega) HL.out.1
    obtain ⟨b5, b6, b8, b9⟩ := kv_sums k2 HL.out.2.1
    have HY := Lib.hid (And.intro hR' (And.intro hx0 (And.intro k6 k8)))
    rw [e1]
    clear hym hxo hye hy16 hy1 e1 k1 k2 k3 k5 k6 k7 k8 hR' hx0 hN
    have HLN : Hid (x.val.length = x.val.length) := Lib.hid rfl
    generalize x.key.length = kl at *
    generalize hvl : x.val.length = vl at *
    generalize hxa : x.a = xa at *
    have HXA := Lib.hid hxa
    have HVL := Lib.hid hvl
    clear hxa hvl HLN
    go_wp2_with (fail)
    refine still_all (by kernel_rfl) (by kernel_rfl) ?_
    intro W3 hW3
    have HB3 := Lib.hid (drew_below hW3)
    have HT3 := Lib.hid (HT2.out.below HB3.out)
    have x0 := drew_cell hW3 x0
    have x1 := drew_cell hW3 x1
    have x2 := drew_cell hW3 x2
    have d8 := drew_cell hW3 d8
    have d9 := drew_cell hW3 d9
    clear hW3
    repeat still_step
    refine wpStill_nil ?_
    go_wp2_with (fail)
    refine still_all (by kernel_rfl) (by kernel_rfl) ?_
    intro W4 hW4
    have HB4 := Lib.hid (below_then HB3.out HB3.out.size (drew_below hW4))
    have HT4 := Lib.hid (HT2.out.below HB4.out)
    have x2 := drew_cell hW4 x2
    have d8 := drew_cell hW4 d8
    have d9 := drew_cell hW4 d9
    clear hW4
    repeat still_step
    refine wpStill_nil ?_
    go_wp2_with (fail)
    refine (runlock_held rwRLib p 2 1 (.int .i32 0) (.int .u32 0) _ ((blk_cell HT4.out.cell 2).trans HC1.out.c2) ((blk_cell HT4.out.cell 4).trans HC1.out.c4) ((blk_cell HT4.out.cell 6).trans HC1.out.c6) (blk_frozen HT4.out.cell 6) (by rw [down1]; decide)).mono ?_
    rintro e w'' ⟨rfl, rfl⟩
    simp only [down1, show 2 + 4 = 6 from rfl]
    go_wp2
    go_ret2
    exact ⟨.inl ⟨x, R', HY.out.1, HY.out.2.1, Av, cv', by rw [HVL.out]; rfl, by rw [HVL.out]; exact HY.out.2.2.1, HY.out.2.2.2⟩, HG1.out.trans ((grown_below HX.out.2 _).trans ((grown_below HB4.out _).trans (grown_set _ _ _ _))), _, HT4.out.set 6 _, HC1.out.set6 0⟩

theorem nz {a : Nat} (h : 16 ≤ a) : ((a : Int) != 0) = true := by rw [bne_iff_ne]; omega

theorem node_reads {W : World} {base p c mh o : Nat} {cs : Array Value} {vk : Value} {N : Option Addr} {kv nd : List Int} {x : Node} (hT : Tab W base p cs vk (.slice N nd.length c) kv nd) (hx : NodeOk nd kv mh x) (ho : G nd x.a = (o : Int)) :
    ∃ ad : Addr, N = some ad ∧ W.cell? (ad.add x.a) = some (.int .i64 (o : Int)) ∧ W.cell? ⟨ad.block, ad.off + (x.a + 1), none⟩ = some (.int .i64 (x.key.length : Int)) ∧ W.cell? ⟨ad.block, ad.off + (x.a + 2), none⟩ = some (.int .i64 (x.val.length : Int)) ∧ W.cell? ⟨ad.block, ad.off + (x.a + 3), none⟩ = some (.int .i64 (x.h : Int)) := by
  have hye := hx.end_
  obtain ⟨ad, hN, x0⟩ := hT.at (i := x.a) (by omega)
  subst hN
  have get : ∀ i : Nat, i < nd.length → W.cell? ⟨ad.block, ad.off + i, none⟩ = some (.int .i64 (G nd i)) := fun i hi => by
    obtain ⟨ad', hN', h⟩ := hT.at' (i := i) hi
    injection hN' with e
    subst e
    exact h
  refine ⟨ad, rfl, by rw [← ho]; exact x0, ?_, ?_, ?_⟩
  · rw [← hx.kl]; exact get _ (by omega)
  · rw [← hx.vl]; exact get _ (by omega)
  · rw [← hx.ht]; exact get _ (by have := hx.h1; omega)

def FindTold (w : World) (base p : Nat) (Kx : Option Addr) (ck : Nat) (vn V : Value) (r : Nat) (mh n sz : Int) (q : Nat → Int) (kv nd : List Int) (R : List Node) (er : Value) (e : Ending) (w' : World) : Prop :=
  ((∃ x R', R = x :: R' ∧ ∃ A c B d, e = .returned (.tuple #[.slice A x.key.length c, .slice B x.val.length d, .nilIface]) ∧ x.key.length ≤ c ∧ x.val.length ≤ d ∧ Cut kv Kx A x.key ∧ Cut kv Kx B x.val) ∨
    (R = [] ∧ e = .returned (.tuple #[.slice none 0 0, .slice none 0 0, er]))) ∧ RestTold w base p (.slice Kx kv.length ck) vn V r mh n sz q kv nd w'

set_option maxHeartbeats 1600000 in
set_option maxRecDepth 100000 in
theorem Find_calls {w : World} {base p r mh c ck ca : Nat} {cs : Array Value} {V er : Value} {N Kx A0 : Option Addr} {n sz : Int} {q : Nat → Int} {kv nd key : List Int} {ns P R : List Node} {f : List Int → List Int → Int}
    (hT : Tab w base p cs (.slice Kx kv.length ck) (.slice N nd.length c) kv nd) (hC : Cs cs V r 0 0 (.slice Kx kv.length ck) (.slice N nd.length c) q (mh : Int) n sz) (hS : Skip nd kv mh ns) (hl : nd.length ≤ 1099511627776) (hkl : kv.length ≤ 1099511627776) (hck : kv.length ≤ ck)
    (hV : Cmpr V f) (hns : ns = P ++ R) (hP : ∀ x ∈ P, f x.key key < 0) (hR : ∀ x ∈ R, 0 ≤ f x.key key) (hs : Sorted f R) (hbk : Byt key) (hbv : ∀ x ∈ ns, Byt x.key)
    (hA : Kd.C (Kd.int .u8) w A0 key.length key) (hne : 0 < key.length → ∀ a, A0 = some a → a.block ≠ p) (hE : w.cell? ⟨0, 0, none⟩ = some er) (hp0 : 0 ≠ p) :
    Calls Tryz.prog 75 #[.pointer (some ⟨p, 0, none⟩), .slice A0 key.length ca] w fun e w' => FindTold w base p Kx ck (.slice N nd.length c) V r (mh : Int) n sz q kv nd R er e w' := by
  have c2 : w.cell? ⟨p, 2, none⟩ = some (.int .i32 0) := (blk_cell hT.cell 2).trans hC.c2
  have c5 : w.cell? ⟨p, 5, none⟩ = some (.int .u32 0) := (blk_cell hT.cell 5).trans hC.c5
  have c6 : w.cell? ⟨p, 6, none⟩ = some (.int .i32 0) := (blk_cell hT.cell 6).trans hC.c6
  have f6 := blk_frozen hT.cell 6
  have hT1 := hT.set 6 (.int .i32 1)
  have hC1 := hC.set6 1
  have hg1 := grown_set w p 6 (.int .i32 1)
  have hE1 : (w.setCell ⟨p, 6, none⟩ (.int .i32 1)).cell? ⟨0, 0, none⟩ = some er := hg1.cell hE (fun e => hp0 (by injection e))
  have HGF := Lib.hid (GF_calls (ca := ca) hT1 hC1 hS hl hkl hck hV hns hP hR hs hbk hbv (C_grown hA hg1 hne))
  have HT1 := Lib.hid hT1
  have HC1 := Lib.hid hC1
  have HG1 := Lib.hid hg1
  have HE1 := Lib.hid hE1
  have HS := Lib.hid hS
  have HL := Lib.hid (And.intro hl (And.intro hkl hck))
  have HNS := Lib.hid hns
  clear hT hC hS hl hkl hck hV hns hP hR hs hbk hbv hA hne hT1 hC1 hg1 hE hE1
  go_enter Tryz.func75, Tryz.ntmps75
  go_wp2_with (fail)
  refine (rlock_open rwRLib p 2 0 _ _ _ c2 c5 c6 f6 (by rw [up1]; decide)).mono ?_
  rintro e w' ⟨rfl, rfl⟩
  simp only [up1, show 2 + 4 = 6 from rfl]
  generalize w.setCell ⟨p, 6, none⟩ (.int .i32 1) = w1 at *
  go_upto_if 22 with (go_at_call 89; (with_reducible refine HGF.out.mono ?_); rintro e w2 ⟨ex, rfl, hex, hb2⟩)
  have HT2 := Lib.hid (HT1.out.below hb2)
  have HX := Lib.hid hb2
  clear hex hb2
  cases R with
  | nil =>
    have e0 : w2.cell? ⟨0, 0, none⟩ = some er := pw_cell_below HX.out HE1.out
    have z0 : (((nxt 0 ([] : List Node) : Nat) : Int) != 0) = false := rfl
    go_wp2_with (fail)
    refine (runlock_held rwRLib p 2 1 (.int .i32 0) (.int .u32 0) _ ((blk_cell HT2.out.cell 2).trans HC1.out.c2) ((blk_cell HT2.out.cell 4).trans HC1.out.c4) ((blk_cell HT2.out.cell 6).trans HC1.out.c6) (blk_frozen HT2.out.cell 6) (by rw [down1]; decide)).mono ?_
    rintro e w'' ⟨rfl, rfl⟩
    simp only [down1, show 2 + 4 = 6 from rfl]
    go_wp2
    go_ret3
    exact ⟨.inr ⟨rfl, rfl⟩, HG1.out.trans ((grown_below HX.out _).trans (grown_set _ _ _ _)), _, HT2.out.set 6 _, HC1.out.set6 0⟩
  | cons x R' =>
    have hym : x ∈ ns := by rw [HNS.out]; simp
    have hxo := HS.out.ok x hym
    have hye := hxo.end_
    have hy16 := hxo.a
    have hy1 := hxo.h1
    have e1 : nxt 0 (x :: R') = x.a := by rw [nxt, if_pos (by omega)]
    obtain ⟨o, Ak, Av, ck', cv', k1, k2, k3, k4, k5, k6, k7, k8⟩ := kv_cut (Kx := Kx) hxo HL.out.2.2
    obtain ⟨ad, hN, x0, x1, x2, _⟩ := node_reads HT2.out hxo k1
    subst hN
    have d9 : w2.cell? ⟨p, 9, none⟩ = some (.slice (some ad) nd.length c) := (blk_cell HT2.out.cell 9).trans HC1.out.c9
    have d8 : w2.cell? ⟨p, 8, none⟩ = some (.slice Kx kv.length ck) := (blk_cell HT2.out.cell 8).trans HC1.out.c8
    obtain ⟨b0, b1, b1', b2, b2', b3, b3', b4, b4', b7, b7'⟩ := node_sums (a := x.a) (n := nd.length) (by omega) HL.out.1
    obtain ⟨b5, b6, b8, b9⟩ := kv_sums k2 HL.out.2.1
    have z0 : ((x.a : Int) != 0) = true := nz hy16
    have HZ := Lib.hid (And.intro b1' (And.intro b2' (And.intro b3' (And.intro b7' b9))))
    clear b1' b2' b3' b4' b6 b7 b7' b8 b9
    have HY := Lib.hid (And.intro k5 (And.intro k6 (And.intro k7 k8)))
    rw [e1]
    clear hym hxo hye hy16 hy1 e1 k1 k2 k5 k6 k7 k8
    generalize hkl : x.key.length = kl at *
    generalize hvl : x.val.length = vl at *
    generalize hxa : x.a = xa at *
    have HKL := Lib.hid hkl
    have HVL := Lib.hid hvl
    clear hxa hvl hkl
    go_wp2_with (fail)
    refine still_all (by kernel_rfl) (by kernel_rfl) ?_
    intro W4 hW4
    have HB4 := Lib.hid (drew_below hW4)
    have HT4 := Lib.hid (HT2.out.below HB4.out)
    have x2 := drew_cell hW4 x2
    have d8 := drew_cell hW4 d8
    have d9 := drew_cell hW4 d9
    clear hW4
    obtain ⟨b1', b2', b3', b7', b9⟩ := HZ.out
    repeat still_step
    refine wpStill_nil ?_
    go_wp2_with (fail)
    refine (runlock_held rwRLib p 2 1 (.int .i32 0) (.int .u32 0) _ ((blk_cell HT4.out.cell 2).trans HC1.out.c2) ((blk_cell HT4.out.cell 4).trans HC1.out.c4) ((blk_cell HT4.out.cell 6).trans HC1.out.c6) (blk_frozen HT4.out.cell 6) (by rw [down1]; decide)).mono ?_
    rintro e w'' ⟨rfl, rfl⟩
    simp only [down1, show 2 + 4 = 6 from rfl]
    go_wp2
    go_ret3
    exact ⟨.inl ⟨x, R', rfl, Ak, ck', Av, cv', by rw [HVL.out, HKL.out]; rfl, by rw [HKL.out]; exact HY.out.1, by rw [HVL.out]; exact HY.out.2.1, HY.out.2.2.1, HY.out.2.2.2⟩, HG1.out.trans ((grown_below HX.out _).trans ((grown_below HB4.out _).trans (grown_set _ _ _ _))), _, HT4.out.set 6 _, HC1.out.set6 0⟩

structure Fr (w w' : World) (S : Nat → Prop) : Prop where
  os : w'.os = w.os
  tape : w'.tape = w.tape
  output : w'.output = w.output
  size : w.heap.size ≤ w'.heap.size
  block : ∀ k, k < w.heap.size → ¬ S k → w'.heap[k]? = w.heap[k]?

section
variable {w w1 w2 : World} {S S2 : Nat → Prop}
theorem Fr.refl (w : World) (S : Nat → Prop) : Fr w w S := ⟨rfl, rfl, rfl, Nat.le_refl _, fun _ _ _ => rfl⟩
theorem Fr.of_below (h : Below w.heap.size w w1) (S : Nat → Prop) : Fr w w1 S := ⟨h.os, h.tape, h.output, h.size, fun k hk _ => h.block k hk⟩
theorem Fr.of_grown {row : Option Nat} (h : w.grownBy w1 row) (hr : ∀ k, row = some k → S k) : Fr w w1 S := ⟨h.os, h.tape, h.output, h.size, fun k hk hn => h.block k hk (fun e => hn (hr k e.symm))⟩
theorem Fr.then_ (h : Fr w w1 S) (g : Fr w1 w2 S2) (hs : ∀ k, S2 k → S k ∨ w.heap.size ≤ k) : Fr w w2 S :=
  ⟨g.os.trans h.os, g.tape.trans h.tape, g.output.trans h.output, Nat.le_trans h.size g.size, fun k hk hn => (g.block k (Nat.lt_of_lt_of_le hk h.size) (fun q => (hs k q).elim hn (fun q => by omega))).trans (h.block k hk hn)⟩
theorem Fr.mono (h : Fr w w1 S) (hs : ∀ k, S k → S2 k) : Fr w w1 S2 := ⟨h.os, h.tape, h.output, h.size, fun k hk hn => h.block k hk (fun q => hn (hs k q))⟩
theorem Fr.setCell (h : Fr w w1 S) {p : Addr} (hp : S p.block ∨ w.heap.size ≤ p.block) (u : Value) : Fr w (w1.setCell p u) S :=
  h.then_ (S2 := fun k => k = p.block) ⟨rfl, rfl, rfl, by simp, fun k hk hn => Below.heap_setCell _ _ _ k hn⟩ (fun k hk => by rw [hk]; exact hp)
theorem Fr.below {B : Nat} (h : Fr w w1 S) (hB : B ≤ w.heap.size) (hS : ∀ k, S k → B ≤ k) : Below B w w1 := ⟨h.os, h.tape, h.output, h.size, fun k hk => h.block k (by omega) (fun q => by have := hS k q; omega)⟩
theorem Fr.cell (h : Fr w w1 S) {a : Addr} {v : Value} (hc : w.cell? a = some v) (hn : ¬ S a.block) : w1.cell? a = some v := by
  have hb := h.block a.block (World.block_lt_of_cell? w a hc) hn
  unfold World.cell? at hc ⊢
  rw [hb]
  exact hc
theorem Fr.C (h : Fr w w1 S) {A : Option Addr} {n : Nat} {l : List Int} (hc : Kd.C (Kd.int .u8) w A n l) (hn : 0 < n → ∀ a, A = some a → ¬ S a.block) : Kd.C (Kd.int .u8) w1 A n l := by
  obtain ⟨h1, h2, h3⟩ := C_ints hc
  refine ints_C ⟨h1, h2, fun hp => ?_⟩
  obtain ⟨a, ha, hcc⟩ := h3 hp
  refine ⟨a, ha, fun j hj => h.cell (hcc j hj) ?_⟩
  rw [add_block]
  exact hn hp a ha
end

theorem Tab.setNd {W : World} {base p g c : Nat} {cs : Array Value} {vk : Value} {kv nd : List Int} (h : Tab W base p cs vk (.slice (some ⟨g, 0, none⟩) nd.length c) kv nd) (i : Nat) (v : Int) :
    Tab (W.setCell ⟨g, i, none⟩ (.int .i64 v)) base p cs vk (.slice (some ⟨g, 0, none⟩) nd.length c) kv (nd.set i v) := by
  have hne : p ≠ g := fun e => own_ne h.nd h.cell (by decide) (by rw [e]; rfl)
  have hk : some g ≠ vk.ownBlock := by
    rcases own_type_ne h.kv h.nd (by decide) with q | q
    · rw [q]; simp
    · exact fun e => q e.symm
  refine ⟨(Below.heap_setCell _ _ _ p hne).trans h.cell, own_setCell (p := ⟨g, i, none⟩) h.kv hk _, ?_, h.at_⟩
  rw [List.length_set]
  have := (own_store h.nd (i : Int) v).1
  rw [Int.toNat_natCast] at this
  exact this

theorem Tab.own {W : World} {base p c : Nat} {N : Option Addr} {cs : Array Value} {vk : Value} {kv nd : List Int} (h : Tab W base p cs vk (.slice N nd.length c) kv nd) (hl : 0 < nd.length) : ∃ g, N = some ⟨g, 0, none⟩ ∧ g ≠ p ∧ base ≤ g ∧ g < W.heap.size ∧ nd.length ≤ c := by
  rcases h.nd.2 with ⟨hv, h0⟩ | ⟨g, cap, cur, hv, hb, hh, h1, _⟩
  · have : nd.length = 0 := by first | exact h0.1 | exact h0
    omega
  · injection hv with e1 e2 e3
    refine ⟨g, e1, fun e => ?_, hb, blk_lt hh, by omega⟩
    have := own_ne h.nd h.cell (by decide)
    rw [e1, ← e] at this
    exact this rfl

theorem Tab.numG {W : World} {base p g c : Nat} {cs : Array Value} {vk : Value} {kv nd : List Int} (h : Tab W base p cs vk (.slice (some ⟨g, 0, none⟩) nd.length c) kv nd) {i : Nat} (hi : i < nd.length) : W.cell? ⟨g, i, none⟩ = some (.int .i64 (G nd i)) ∧ W.frozen? ⟨g, i, none⟩ = false := by
  refine ⟨h.num hi, ?_⟩
  rcases h.nd.2 with ⟨hv, h0⟩ | ⟨g', cap, cur, hv, hb, hh, h1, _⟩
  · have : nd.length = 0 := by first | exact h0.1 | exact h0
    omega
  · injection hv with e1 e2 e3
    injection e1 with e1
    injection e1 with e1
    subst e1
    exact blk_frozen hh i

theorem link_sums {a i n : Nat} (h1 : a + 4 + i < n) (hn : n ≤ 1099511627776) :
    (a : Int) + 4 + (i : Int) < (n : Int) ∧ (0 : Int) ≤ (a : Int) + 4 + (i : Int) ∧ ((a : Int) + 4 + (i : Int)).toNat = a + 4 + i ∧ wrap64 ((a : Int) + 4) = (a : Int) + 4 ∧ wrap64 ((a : Int) + 4 + (i : Int)) = (a : Int) + 4 + (i : Int) ∧
    IntKind.i64.wrap ((a : Int) + 4) = (a : Int) + 4 ∧ IntKind.i64.wrap ((a : Int) + 4 + (i : Int)) = (a : Int) + 4 + (i : Int) :=
  ⟨by omega, by omega, by omega, wz (by omega) (by omega), wz (by omega) (by omega), iz (by omega) (by omega), iz (by omega) (by omega)⟩

end Go.Proofs.YtdkkkikcigjlhaaGreatDoor.Md

namespace Go.Proofs.YtdkkkikcigjlhaaGreatDoor.Md
open Go.RowKit Go.Proofs.YtdkkkikcigjlhaaGreatDoor.Con Go.Proofs.YtdkkkikcigjlhaaGreatDoor.Run Go.Proofs.YtdkkkikcigjlhaaGreatDoorW.PrintWords Go.Proofs.YtdkkkikcigjlhaaGreatDoorW.PrintMore Go.Proofs.YtdkkkikcigjlhaaGreatDoor.Cmp Go.Sort Go.RwLone Go.Proofs.YtdkkkikcigjlhaaGreatDoor.PFnMemMap

def sumK (l : List S44) : Nat := (l.map fun x => x.f0.length + x.f1.length).sum
def sumM (l : List S104) : Nat := (l.map fun x => x.f1.length).sum
def sumL (l : List (List S44)) : Nat := (l.map sumK).sum
def cntL (l : List (List S44)) : Nat := (l.map List.length).sum

theorem sumK_snoc (l : List S44) (x : S44) : sumK (l ++ [x]) = sumK l + (x.f0.length + x.f1.length) := by simp [sumK]
theorem sumM_snoc (l : List S104) (x : S104) : sumM (l ++ [x]) = sumM l + x.f1.length := by simp [sumM]
theorem sumL_snoc (l : List (List S44)) (x : List S44) : sumL (l ++ [x]) = sumL l + sumK x := by simp [sumL]
theorem cntL_snoc (l : List (List S44)) (x : List S44) : cntL (l ++ [x]) = cntL l + x.length := by simp [cntL]
theorem cnt_le {l : List (List S44)} (h : ∀ x ∈ l, x.length ≤ 2147483647) : cntL l ≤ l.length * 2147483647 := by
  induction l with
  | nil => simp [cntL]
  | cons x l ih =>
    have h1 := h x (by simp)
    have h2 := ih (fun r hr => h r (by simp [hr]))
    simp only [cntL, List.map_cons, List.sum_cons, List.length_cons] at h2 ⊢
    omega

theorem sp_take {α : Type} {l : List α} {i : Nat} (h : i < l.length) (z : α) : l.take (i + 1) = l.take i ++ [l.getD i z] := by
  rw [List.take_add_one, List.getElem?_eq_getElem h]
  simp [List.getD_eq_getElem?_getD, List.getElem?_eq_getElem h]

theorem add_two (T kn vn : Nat) (K V : Option Addr) (kc vc : Nat) : addW (wrap64 (T : Int)) [(K, kn, kc), (V, vn, vc)] = wrap64 ((T + (kn + vn) : Nat) : Int) := by
  simp only [addW]
  unfold wrap64
  omega
theorem add_one (T kn : Nat) (K : Option Addr) (kc : Nat) : addW (wrap64 (T : Int)) [(K, kn, kc)] = wrap64 ((T + kn : Nat) : Int) := by
  simp only [addW]
  unfold wrap64
  omega

def BndAt (W : World) (g T N : Nat) : Prop := W.heap[g]? = some (.cells #[.int .i64 (wrap64 (T : Int)), .int .i64 (N : Int)] 86 (0, 0))

abbrev kLL : Kd (List S44) := Kd.slice 44 k44

theorem LL_at {w : World} {ok : Nat → Prop} {A : Option Addr} {n : Nat} {LL : List (List S44)} (h : Kd.F kLL w ok A n LL) {i : Nat} (hi : i < n) {l : List S44} (hl : LL.getD i [] = l) :
    ∃ ad A1 c1, A = some ad ∧ w.cell? (ad.add i) = some (.slice A1 l.length c1) ∧ l.length ≤ c1 ∧ Kd.F k44 w ok A1 l.length l := by
  obtain ⟨ad, cs', rfl, hcl, hK, hcell, hokb⟩ := Kd.F_get h ([] : List S44) (i : Int) (Int.natCast_nonneg _) (by omega)
  obtain ⟨A1, c1, rfl, hl1, hF1⟩ := Kd.FK_slice_open hK
  have r0 := hcell 0 _ rfl
  rw [Int.toNat_natCast, hl] at r0 hF1 hl1
  have e : i * kLL.sz + 0 = i := by show i * 1 + 0 = i; omega
  rw [e] at r0
  exact ⟨ad, A1, c1, rfl, r0, hl1, hF1⟩

theorem kv_at {w : World} {ok : Nat → Prop} {A : Option Addr} {n : Nat} {l : List S44} (h : Kd.F k44 w ok A n l) {j : Nat} (hj : j < n) {x : S44} (hx : l.getD j (⟨[], []⟩ : S44) = x) :
    ∃ ad A1 c1 A2 c2, A = some ad ∧ w.cell? (ad.add (j * 2)) = some (.slice A1 x.f0.length c1) ∧ w.cell? ⟨(ad.add (j * 2)).block, (ad.add (j * 2)).off + 1, none⟩ = some (.slice A2 x.f1.length c2) ∧ Kd.F (Kd.int .u8) w ok A1 x.f0.length x.f0 ∧ Kd.F (Kd.int .u8) w ok A2 x.f1.length x.f1 ∧ x.f0.length ≤ c1 ∧ x.f1.length ≤ c2 := by
  obtain ⟨ad, cs', rfl, hcl, hK, hcell, hokb⟩ := Kd.F_get h (⟨[], []⟩ : S44) (j : Int) (Int.natCast_nonneg _) (by omega)
  obtain ⟨A1, c1, A2, c2, rfl, hl1, hF1, hl2, hF2⟩ := k44_openF hK
  have r0 := hcell 0 _ rfl
  have r1 := hcell 1 _ rfl
  rw [Int.toNat_natCast, hx] at r0 r1 hF1 hF2 hl1 hl2
  have e3 : j * k44.sz + 1 = j * 2 + 1 := rfl
  rw [e3, add_field ad (j * 2) 1 (by omega)] at r1
  exact ⟨ad, A1, c1, A2, c2, rfl, r0, r1, hF1, hF2, hl1, hl2⟩

theorem mv_at {w : World} {ok : Nat → Prop} {A : Option Addr} {n : Nat} {l : List S104} (h : Kd.F k104 w ok A n l) {j : Nat} (hj : j < n) {x : S104} (hx : l.getD j (⟨0, []⟩ : S104) = x) :
    ∃ ad A1 c1, A = some ad ∧ w.cell? (ad.add (j * 2)) = some (.int .i64 x.f0) ∧ w.cell? ⟨(ad.add (j * 2)).block, (ad.add (j * 2)).off + 1, none⟩ = some (.slice A1 x.f1.length c1) ∧ Kd.F (Kd.int .u8) w ok A1 x.f1.length x.f1 ∧ x.f1.length ≤ c1 := by
  obtain ⟨ad, cs', rfl, hcl, hK, hcell, hokb⟩ := Kd.F_get h (⟨0, []⟩ : S104) (j : Int) (Int.natCast_nonneg _) (by omega)
  obtain ⟨A1, c1, rfl, hl1, hF1⟩ := k104_openF hK
  have r0 := hcell 0 _ rfl
  have r1 := hcell 1 _ rfl
  rw [Int.toNat_natCast, hx] at r0 r1 hF1 hl1
  have e3 : j * k104.sz + 1 = j * 2 + 1 := rfl
  rw [e3, add_field ad (j * 2) 1 (by omega)] at r1
  exact ⟨ad, A1, c1, rfl, r0, r1, hF1, hl1⟩

def few (LL : List (List S44)) (ms : List S104) : Bool := decide (wrap64 ((sumL LL + sumM ms : Nat) : Int) ≤ 1048576 ∧ ((LL.length + cntL LL + ms.length : Nat) : Int) ≤ 4096)

theorem BndAt.two {W : World} {g T N : Nat} (h : BndAt W g T N) (hN : N ≤ 9223372036854775806) {K V : Option Addr} {kn kc vn vc : Nat} :
    Calls Tryz.prog 44 #[.pointer (some ⟨g, 0, none⟩), .slice (some ⟨W.heap.size, 0, none⟩) 2 2] (W.alloc (.cells #[.slice K kn kc, .slice V vn vc] 25)) fun e w' => e = .returned (.tuple #[]) ∧ Hid (BndAt w' g (T + (kn + vn)) (N + 1)) ∧ Hid (Fr W w' (fun k => k = g)) := by
  have hba := below_alloc (Below.refl W.heap.size W) (.cells #[.slice K kn kc, .slice V vn vc] 25)
  refine (add_calls (ls := [(K, kn, kc), (V, vn, vc)]) (m := 2) ((hba.block g (blk_lt h)).trans h) (blk_new W (.cells #[.slice K kn kc, .slice V vn vc] 25)) rfl (by omega) hN).mono ?_
  rintro e w' ⟨rfl, hk, hg⟩
  rw [add_two] at hk
  exact ⟨rfl, Lib.hid hk, Lib.hid ((Fr.of_below hba (fun k => k = g)).then_ (Fr.of_grown (S := fun k => k = g) hg (fun k e => by injection e with e; exact e.symm)) (fun k hk => .inl hk))⟩

theorem BndAt.one {W : World} {g T N : Nat} (h : BndAt W g T N) (hN : N ≤ 9223372036854775806) {K : Option Addr} {kn kc : Nat} :
    Calls Tryz.prog 44 #[.pointer (some ⟨g, 0, none⟩), .slice (some ⟨W.heap.size, 0, none⟩) 1 1] (W.alloc (.cells #[.slice K kn kc] 25)) fun e w' => e = .returned (.tuple #[]) ∧ Hid (BndAt w' g (T + kn) (N + 1)) ∧ Hid (Fr W w' (fun k => k = g)) := by
  have hba := below_alloc (Below.refl W.heap.size W) (.cells #[.slice K kn kc] 25)
  refine (add_calls (ls := [(K, kn, kc)]) (m := 1) ((hba.block g (blk_lt h)).trans h) (blk_new W (.cells #[.slice K kn kc] 25)) rfl (by omega) hN).mono ?_
  rintro e w' ⟨rfl, hk, hg⟩
  rw [add_one] at hk
  exact ⟨rfl, Lib.hid hk, Lib.hid ((Fr.of_below hba (fun k => k = g)).then_ (Fr.of_grown (S := fun k => k = g) hg (fun k e => by injection e with e; exact e.symm)) (fun k hk => .inl hk))⟩

end Go.Proofs.YtdkkkikcigjlhaaGreatDoor.Md
