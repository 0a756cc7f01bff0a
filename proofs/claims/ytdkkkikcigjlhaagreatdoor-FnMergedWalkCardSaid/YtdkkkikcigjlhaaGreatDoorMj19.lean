/- The memory table's iterator: fill on a node. The memory table's iterator: fill on a node, no range. -/
import Derived.Test.YtdkkkikcigjlhaaGreatDoorMj18
set_option linter.unusedVariables false
set_option linter.unusedSimpArgs false
namespace Go.Proofs.YtdkkkikcigjlhaaGreatDoor.Md
open Go.RowKit Go.Proofs.YtdkkkikcigjlhaaGreatDoor.Con Go.Proofs.YtdkkkikcigjlhaaGreatDoor.Run Go.Proofs.YtdkkkikcigjlhaaGreatDoorW.PrintWords Go.Proofs.YtdkkkikcigjlhaaGreatDoorW.PrintMore Go.Proofs.YtdkkkikcigjlhaaGreatDoor.Cmp Go.Sort Go.RwLone

def Bd (w : World) (v : Value) : Option (List Int) → Prop
  | none => v = .slice none 0 0
  | some l => ∃ a c, v = .slice (some a) l.length c ∧ Kd.C (Kd.int .u8) w (some a) l.length l ∧ Byt l

def under (f : List Int → List Int → Int) (lim : Option (List Int)) (key : List Int) : Bool := match lim with
  | none => true
  | some l => decide (f key l < 0)
def over (f : List Int → List Int → Int) (st : Option (List Int)) (key : List Int) : Bool := match st with
  | none => true
  | some l => !decide (f key l < 0)

theorem over_no {f : List Int → List Int → Int} {l key : List Int} (h : f key l < 0) : over f (some l) key = false := by simp [over, h]
theorem over_yes {f : List Int → List Int → Int} {l key : List Int} (h : 0 ≤ f key l) : over f (some l) key = true := by simp [over]; omega

theorem Bd.below {w w1 : World} {v : Value} {b : Option (List Int)} (h : Bd w v b) (hb : Below w.heap.size w w1) : Bd w1 v b := by
  cases b with
  | none => exact h
  | some l =>
    obtain ⟨a, c, h1, h2, h3⟩ := h
    exact ⟨a, c, h1, Kd.C_below h2 hb, h3⟩

theorem Tab.fr {W W1 : World} {base p it : Nat} {cs : Array Value} {vk vn : Value} {kv nd : List Int} (h : Tab W base p cs vk vn kv nd) (hf : Fr W W1 (fun k => k = it)) (h1 : it ≠ p) (h2 : some it ≠ vk.ownBlock) (h3 : some it ≠ vn.ownBlock) : Tab W1 base p cs vk vn kv nd :=
  ⟨(hf.block p (blk_lt h.cell) (Ne.symm h1)).trans h.cell, own_move h.kv (fun k hk => hf.block k (own_lt h.kv k hk) (fun e => h2 (by rw [← e, hk]))), own_move h.nd (fun k hk => hf.block k (own_lt h.nd k hk) (fun e => h3 (by rw [← e, hk]))), h.at_⟩

set_option maxHeartbeats 3200000 in
set_option maxRecDepth 100000 in
theorem FillL_calls {w : World} {base p it s r mh c ck : Nat} {cs ics : Array Value} {V k v Sb Lb : Value} {N Kx : Option Addr} {l0 l4 n sz : Int} {q : Nat → Int} {kv nd : List Int} {ns : List Node} {f : List Int → List Int → Int} {fw : Bool} {st lim : Option (List Int)} {x : Node}
    (hT : Tab w base p cs (.slice Kx kv.length ck) (.slice N nd.length c) kv nd) (hC : Cs cs V r l0 l4 (.slice Kx kv.length ck) (.slice N nd.length c) q (mh : Int) n sz) (hS : Skip nd kv mh ns) (hl : nd.length ≤ 1099511627776) (hkl : kv.length ≤ 1099511627776) (hck : kv.length ≤ ck)
    (hV : Cmpr V f) (hbv : ∀ x ∈ ns, Byt x.key ∧ Byt x.val) (hb : Blk w it ics) (hi : Is ics p (.pointer (some ⟨s, 0, none⟩)) (x.a : Int) fw k v) (hx : x ∈ ns) (hs0 : w.cell? ⟨s, 0, none⟩ = some Sb) (hs1 : w.cell? ⟨s, 1, none⟩ = some Lb) (hst : Bd w Sb st) (hlim : Bd w Lb lim) (hsi : s ≠ it) (hsl : ∀ l a c, lim = some l → Lb = .slice (some a) l.length c → a.block ≠ it) (hitp : it ≠ p) (hitk : some it ≠ (Value.slice Kx kv.length ck).ownBlock) (hitn : some it ≠ (Value.slice N nd.length c).ownBlock) :
    Calls Tryz.prog 175 #[.pointer (some ⟨it, 0, none⟩), .bool false, .bool true] w fun e w' => FillTold w it p (.pointer (some ⟨s, 0, none⟩)) fw kv Kx (if under f lim x.key then some x else none) e w' := by
  have hxo := hS.ok x hx
  have hxe : x.a + 4 ≤ nd.length := by have := hxo.end_; omega
  have hx16 := hxo.a
  obtain ⟨o, Ak, Av, ck', cv', k1, k2, k3, k4, k5, k6, k7, k8⟩ := kv_cut (Kx := Kx) hxo hck
  obtain ⟨ad, hN, x0, x1, x2, _⟩ := node_reads hT hxo k1
  subst hN
  have d9 : w.cell? ⟨p, 9, none⟩ = some (.slice (some ad) nd.length c) := (blk_cell hT.cell 9).trans hC.c9
  have d8 : w.cell? ⟨p, 8, none⟩ = some (.slice Kx kv.length ck) := (blk_cell hT.cell 8).trans hC.c8
  have d0 : w.cell? ⟨p, 0, none⟩ = some V := (blk_cell hT.cell 0).trans hC.c0
  have i2 := hb.cell hi.c2
  have i3 := hb.cell hi.c3
  have i4 := hb.cell hi.c4
  have HT := Lib.hid hT
  have HC := Lib.hid hC
  have HBK := Lib.hid hb
  have HI := Lib.hid hi
  have HV := Lib.hid hV
  have HR := Lib.hid (And.intro hs0 (And.intro hs1 (And.intro hst (And.intro hlim hsl))))
  have HSUM := Lib.hid (And.intro (node_sums hxe hl) (kv_sums k2 hkl))
  have HY := Lib.hid (And.intro k5 (And.intro k6 (And.intro k7 k8)))
  have HBY := Lib.hid (hbv x hx)
  have HNE := Lib.hid (And.intro hitp (And.intro hitk (And.intro hitn hsi)))
  have z0 : ((x.a : Int) != 0) = true := nz hx16
  have HXN0 : Hid (G nd (x.a + 2) = (x.val.length : Int) ∧ x.a = x.a ∧ x.a + 4 ≤ nd.length) := Lib.hid ⟨hxo.vl, rfl, hxe⟩
  clear hT hC hS hl hkl hck hV hbv hb hi hx hs0 hs1 hst hlim hsl hsi hitp hitk hitn hxo hxe hx16 k1 k2 k5 k6 k7 k8
  generalize hkl : x.key.length = kl at *
  generalize hvl : x.val.length = vl at *
  generalize hxa : x.a = xa at *
  have HL := Lib.hid (And.intro hkl (And.intro hvl hxa))
  clear hkl hvl hxa
  go_enter Tryz.func175, Tryz.ntmps175
  go_wp2
  refine wp_scope_ahead 0 rfl ?_
  go_upto_region 2 with (fail)
  refine still_all (by kernel_rfl) (by kernel_rfl) ?_
  intro W2 hW2
  have b0 := HSUM.out.1.1
  have HB2 := Lib.hid (drew_below hW2)
  have i2 := drew_cell hW2 i2
  have i4 := drew_cell hW2 i4
  have d9 := drew_cell hW2 d9
  have x0 := drew_cell hW2 x0
  have i3 := drew_cell hW2 i3
  have d8 := drew_cell hW2 d8
  have d0 := drew_cell hW2 d0
  have x1 := drew_cell hW2 x1
  have x2 := drew_cell hW2 x2
  clear hW2
  repeat still_step
  refine wpStill_nil ?_
  go_upto_region 3 with (fail)
  refine still_all (by kernel_rfl) (by kernel_rfl) ?_
  intro W3 hW3
  obtain ⟨_, b1, -, b2, -, b3, -, -, -, b4, -⟩ := HSUM.out.1
  have b5 := HSUM.out.2.2.2.1
  have HB3 := Lib.hid (below_then HB2.out HB2.out.size (drew_below hW3))
  have i2 := drew_cell hW3 i2
  have i4 := drew_cell hW3 i4
  have d9 := drew_cell hW3 d9
  have i3 := drew_cell hW3 i3
  have d8 := drew_cell hW3 d8
  have d0 := drew_cell hW3 d0
  have x1 := drew_cell hW3 x1
  have x2 := drew_cell hW3 x2
  clear hW3
  repeat still_step
  refine wpStill_nil ?_
  clear b0 b1 b2 b3 b4 b5
  have i6 := (HBK.out.below HB3.out).cell HI.out.c6
  have f6 := (HBK.out.below HB3.out).froz 6
  have hb4 := (HBK.out.below HB3.out).set 6 (.slice Ak kl ck')
  have hi4 := HI.out.s6 (.slice Ak kl ck')
  have hf4 := (Fr.of_below (S := fun k => k = it) HB3.out).setCell (p := ⟨it, 6, none⟩) (.inl rfl) (.slice Ak kl ck')
  have hq3 := pw_cell_below HB3.out HR.out.1
  have hq4 := pw_cell_below HB3.out HR.out.2.1
  have hs0 : (W3.setCell ⟨it, 6, none⟩ (.slice Ak kl ck')).cell? ⟨s, 0, none⟩ = some Sb := hf4.cell HR.out.1 HNE.out.2.2.2
  have hs1 : (W3.setCell ⟨it, 6, none⟩ (.slice Ak kl ck')).cell? ⟨s, 1, none⟩ = some Lb := hf4.cell HR.out.2.1 HNE.out.2.2.2
  have HB4 := Lib.hid hb4
  have HI4 := Lib.hid hi4
  have HF4 := Lib.hid hf4
  have HT4 := Lib.hid (HT.out.fr hf4 HNE.out.1 HNE.out.2.1 HNE.out.2.2.1)
  clear hb4 hi4 hf4 hq3 hq4 HT x1 x0 i3 i4 d0 d9 x2
  go_upto_region 5 with (fail)
  generalize W3.setCell ⟨it, 6, none⟩ (.slice Ak kl ck') = W4 at *
  clear i2 d8 i6 f6 HB2 HB3 k3
  have i3 := HB4.out.cell HI4.out.c3
  go_upto_if 60 with (fail)
  go_cut [] from 60 to 135 (fun wc => Hid (under f lim x.key = true ∧ Below W4.heap.size W4 wc))
  case first =>
    have hnn := fun (W : World) (a : Option Addr) (n c n' c' : Nat) => run_neq_slice_nil_any (P := Tryz.prog) W 25 5 a n c n' c' Tryz.underlying25
    have HW : ∀ d os, Hid (Below W4.heap.size W4 (grow (redrawn W4 d) os)) := fun d os => below_regrown W4 d os
    have I3 := cell_regrown i3
    have S1 := cell_regrown hs1
    cases lim with
    | none =>
      obtain rfl : Lb = .slice none 0 0 := HR.out.2.2.2.1
      go_upto_region 6 with (fail)
      refine wp_region_quiet_below (by kernel_rfl) (by kernel_rfl) ?_
      repeat (go_big_quiet_step (fail))
      refine wpQuiet_nil ?_
      intro _ hw'
      obtain ⟨⟨dq, osq⟩, hw''⟩ := hw'
      subst hw''
      have hbw := HW dq osq
      clear HW I3 S1 i3
      generalize grow (redrawn W4 dq) osq = W5 at *
      go_upto_region 7 with (fail)
      refine wp_region_quiet_below (by kernel_rfl) (by kernel_rfl) ?_
      repeat (go_big_quiet_step (fail))
      refine wpQuiet_nil ?_
      intro _ hw'
      obtain ⟨⟨dq2, osq2⟩, hw''⟩ := hw'
      subst hw''
      have hbw2 := below_regrown W5 dq2 osq2
      generalize grow (redrawn W5 dq2) osq2 = W6 at *
      go_wp2
      go_meet
      case rel => exact Lib.hid ⟨rfl, below_then hbw.out hbw.out.size hbw2⟩
    | some l =>
      obtain ⟨la, lc, rfl, hlc, hlb⟩ := HR.out.2.2.2.1
      have HLC := Lib.hid (HF4.out.C hlc (fun _ a ha => HR.out.2.2.2.2 l a lc rfl (by rw [ha])))
      have HLB := Lib.hid hlb
      clear hlc hlb
      obtain ⟨T, u, K, rfl, hnil, hmeth, hcall, hcmp⟩ := HV.out.make
      have HCMP := Lib.hid hcmp
      have d0 : W4.cell? ⟨p, 0, none⟩ = some (.iface T u) := (blk_cell HT4.out.cell 0).trans HC.out.c0
      have i2 := HB4.out.cell HI4.out.c2
      have i6 := HB4.out.cell HI4.out.c6
      have D0 := cell_regrown d0
      have I2 := cell_regrown i2
      have I6 := cell_regrown i6
      have HK : ∀ W, Below W4.heap.size W4 W → Hid (Kd.C (Kd.int .u8) W Ak kl x.key) := fun W hW => by
        have h := HY.out.2.2.1 W (ints_C (own_reads' (HT4.out.below hW).kv))
        rw [HL.out.1] at h
        exact Lib.hid h
      have HL2 : ∀ W, Below W4.heap.size W4 W → Hid (Kd.C (Kd.int .u8) W (some la) l.length l) := fun W hW => Lib.hid (Kd.C_below HLC.out hW)
      clear hcmp d0 i2 i6
      go_upto_region 6 with (fail)
      refine wp_region_quiet_below (by kernel_rfl) (by kernel_rfl) ?_
      repeat (go_big_quiet_step (with_reducible refine Calls.regrown_of (HCMP.out _ _ _ _ _ _ _ _ _ (HK _ (HW _ _).out).out (HL2 _ (HW _ _).out).out HBY.out.1 HLB.out)))
      refine wpQuiet_nil ?_
      intro _ hw'
      obtain ⟨⟨dq, osq⟩, hw''⟩ := hw'
      subst hw''
      have hbw := HW dq osq
      clear HW I3 S1 i3 D0 I2 I6 HK HL2 hnil hmeth hcall HCMP hs0 hs1
      generalize grow (redrawn W4 dq) osq = W5 at *
      by_cases hcv : 0 ≤ f x.key l
      · have z1 : decide (0 ≤ f x.key l) = true := decide_eq_true hcv
        have HCV := Lib.hid hcv
        have HB5 := Lib.hid (HB4.out.below hbw.out)
        have i4 := HB5.out.cell HI4.out.c4
        have f4 := HB5.out.froz 4
        have HB6 := Lib.hid (HB5.out.set 4 (.int .i64 0))
        have HI6 := Lib.hid (HI4.out.s4 0)
        have HF6 := Lib.hid ((HF4.out.then_ (Fr.of_below hbw.out (fun _ => False)) (fun k hk => hk.elim)).setCell (p := ⟨it, 4, none⟩) (.inl rfl) (.int .i64 0))
        clear HB5
        go_wp2
        go_step3
        simp only [Exit.then, Exit.inBlock, Exit.jump]
        refine ⟨rfl, ?_⟩
        generalize W5.setCell ⟨it, 4, none⟩ (.int .i64 0) = W6 at *
        have i6 := HB6.out.cell HI6.out.c6
        have f6 := HB6.out.froz 6
        have i7 := HB6.out.cell HI6.out.c7
        have f7 := HB6.out.froz 7
        have HB7 := Lib.hid ((HB6.out.set 6 nilS).set 7 nilS)
        have HI7 := Lib.hid ((HI6.out.s6 nilS).s7 nilS)
        have HF7 := Lib.hid ((HF6.out.setCell (p := ⟨it, 6, none⟩) (.inl rfl) nilS).setCell (p := ⟨it, 7, none⟩) (.inl rfl) nilS)
        clear HB6 HI6 HF6 i4 f4 hcv z1
        go_wp2
        rw [Exit.noGoto_ret]
        go_ret
        have e : under f (some l) x.key = false := decide_eq_false (by have := HCV.out; omega)
        rw [e]
        exact ⟨rfl, HF7.out, _, HB7.out, HI7.out⟩
      · have z1 : decide (0 ≤ f x.key l) = false := decide_eq_false hcv
        have HCV := Lib.hid hcv
        go_upto_region 7 with (fail)
        refine wp_region_quiet_below (by kernel_rfl) (by kernel_rfl) ?_
        repeat (go_big_quiet_step (fail))
        refine wpQuiet_nil ?_
        intro _ hw'
        obtain ⟨⟨dq2, osq2⟩, hw''⟩ := hw'
        subst hw''
        have hbw2 := below_regrown W5 dq2 osq2
        generalize grow (redrawn W5 dq2) osq2 = W6 at *
        go_wp2
        go_meet
        case rel => exact Lib.hid ⟨decide_eq_true (by have := HCV.out; omega), below_then hbw.out hbw.out.size hbw2⟩
  case rest =>
    have hw4 := hcut.out.2
    have HU := Lib.hid hcut.out.1
    have HB5 := Lib.hid (HB4.out.below hw4)
    have HT5 := Lib.hid (HT4.out.below hw4)
    have HF5 := Lib.hid (HF4.out.then_ (Fr.of_below hw4 (fun _ => False)) (fun k hk => hk.elim))
    clear hw4 hcut HB4 HT4 HF4 hs0 hs1 i3
    have i2 := HB5.out.cell HI4.out.c2
    have i4 := HB5.out.cell HI4.out.c4
    have i7 := HB5.out.cell HI4.out.c7
    have f7 := HB5.out.froz 7
    have d8 : wc.cell? ⟨p, 8, none⟩ = some (.slice Kx kv.length ck) := (blk_cell HT5.out.cell 8).trans HC.out.c8
    have d9 : wc.cell? ⟨p, 9, none⟩ = some (.slice (some ad) nd.length c) := (blk_cell HT5.out.cell 9).trans HC.out.c9
    have x2 : wc.cell? ⟨ad.block, ad.off + (xa + 2), none⟩ = some (.int .i64 (vl : Int)) := by
      obtain ⟨ad', hN, h⟩ := HT5.out.at' (i := xa + 2) (by have := HXN0.out.2.2; omega)
      injection hN with hN
      subst hN
      rw [HXN0.out.1] at h
      exact h
    obtain ⟨_, -, b1, -, b2, -, b3, -, -, -, b4⟩ := HSUM.out.1
    have b5 := HSUM.out.2.2.2.1
    have b6 := HSUM.out.2.2.2.2
    go_upto_region 9 with (fail)
    refine still_tail 28 (by kernel_rfl) (by kernel_rfl) ?_
    intro W7 hW7
    have HB7 := Lib.hid (HB5.out.below (drew_below hW7))
    have HF7 := Lib.hid (HF5.out.then_ (Fr.of_below (drew_below hW7) (fun _ => False)) (fun k hk => hk.elim))
    have i2 := drew_cell hW7 i2
    have i4 := drew_cell hW7 i4
    have i7 := drew_cell hW7 i7
    have d8 := drew_cell hW7 d8
    have d9 := drew_cell hW7 d9
    have x2 := drew_cell hW7 x2
    have f7 := HB7.out.froz 7
    clear hW7 HB5 HF5
    simp only [List.take_succ_cons, List.take_zero, List.drop_succ_cons, List.drop_zero]
    repeat still_step
    refine wpStill_nil ?_
    clear b1 b2 b3 b4 b5 b6 d8 d9 x2 i2 i4
    have HB8 := Lib.hid (HB7.out.set 7 (.slice Av vl cv'))
    have HI8 := Lib.hid (HI4.out.s7 (.slice Av vl cv'))
    have HF8 := Lib.hid (HF7.out.setCell (p := ⟨it, 7, none⟩) (.inl rfl) (.slice Av vl cv'))
    go_wp2
    simp only [Exit.jump]
    go_ret
    rw [HU.out, if_pos rfl]
    have e1 := HL.out.1
    have e2 := HL.out.2.1
    have e3 := HL.out.2.2
    subst e1 e2 e3
    exact ⟨rfl, HF8.out, _, HB8.out, Ak, ck', Av, cv', HI8.out, HY.out.1, HY.out.2.1, HY.out.2.2.1, HY.out.2.2.2⟩

set_option maxHeartbeats 3200000 in
set_option maxRecDepth 100000 in
theorem FillN_calls {w : World} {base p it r mh c ck : Nat} {cs ics : Array Value} {V k v : Value} {N Kx : Option Addr} {l0 l4 n sz : Int} {q : Nat → Int} {kv nd : List Int} {ns : List Node} {f : List Int → List Int → Int} {fw b1 b2 : Bool} {x : Node}
    (hT : Tab w base p cs (.slice Kx kv.length ck) (.slice N nd.length c) kv nd) (hC : Cs cs V r l0 l4 (.slice Kx kv.length ck) (.slice N nd.length c) q (mh : Int) n sz) (hS : Skip nd kv mh ns) (hl : nd.length ≤ 1099511627776) (hkl : kv.length ≤ 1099511627776) (hck : kv.length ≤ ck)
    (hV : Cmpr V f) (hbv : ∀ x ∈ ns, Byt x.key ∧ Byt x.val) (hb : Blk w it ics) (hi : Is ics p (.pointer none) (x.a : Int) fw k v) (hx : x ∈ ns)  (hitp : it ≠ p) (hitk : some it ≠ (Value.slice Kx kv.length ck).ownBlock) (hitn : some it ≠ (Value.slice N nd.length c).ownBlock) :
    Calls Tryz.prog 175 #[.pointer (some ⟨it, 0, none⟩), .bool b1, .bool b2] w fun e w' => FillTold w it p (.pointer none) fw kv Kx (some x) e w' := by
  have hxo := hS.ok x hx
  have hxe : x.a + 4 ≤ nd.length := by have := hxo.end_; omega
  have hx16 := hxo.a
  obtain ⟨o, Ak, Av, ck', cv', k1, k2, k3, k4, k5, k6, k7, k8⟩ := kv_cut (Kx := Kx) hxo hck
  obtain ⟨ad, hN, x0, x1, x2, _⟩ := node_reads hT hxo k1
  subst hN
  have d9 : w.cell? ⟨p, 9, none⟩ = some (.slice (some ad) nd.length c) := (blk_cell hT.cell 9).trans hC.c9
  have d8 : w.cell? ⟨p, 8, none⟩ = some (.slice Kx kv.length ck) := (blk_cell hT.cell 8).trans hC.c8
  have d0 : w.cell? ⟨p, 0, none⟩ = some V := (blk_cell hT.cell 0).trans hC.c0
  have i2 := hb.cell hi.c2
  have i3 := hb.cell hi.c3
  have i4 := hb.cell hi.c4
  have HT := Lib.hid hT
  have HC := Lib.hid hC
  have HBK := Lib.hid hb
  have HI := Lib.hid hi
  have HV := Lib.hid hV
  have HSUM := Lib.hid (And.intro (node_sums hxe hl) (kv_sums k2 hkl))
  have HY := Lib.hid (And.intro k5 (And.intro k6 (And.intro k7 k8)))
  have HBY := Lib.hid (hbv x hx)
  have HNE := Lib.hid (And.intro hitp (And.intro hitk hitn))
  have z0 : ((x.a : Int) != 0) = true := nz hx16
  have HXN0 : Hid (G nd (x.a + 2) = (x.val.length : Int) ∧ x.a = x.a ∧ x.a + 4 ≤ nd.length) := Lib.hid ⟨hxo.vl, rfl, hxe⟩
  clear hT hC hS hl hkl hck hV hbv hb hi hx hitp hitk hitn hxo hxe hx16 k1 k2 k5 k6 k7 k8
  generalize hkl : x.key.length = kl at *
  generalize hvl : x.val.length = vl at *
  generalize hxa : x.a = xa at *
  have HL := Lib.hid (And.intro hkl (And.intro hvl hxa))
  clear hkl hvl hxa
  go_enter Tryz.func175, Tryz.ntmps175
  go_wp2
  refine wp_scope_ahead 0 rfl ?_
  go_upto_region 2 with (fail)
  refine still_all (by kernel_rfl) (by kernel_rfl) ?_
  intro W2 hW2
  have b0 := HSUM.out.1.1
  have HB2 := Lib.hid (drew_below hW2)
  have i2 := drew_cell hW2 i2
  have i4 := drew_cell hW2 i4
  have d9 := drew_cell hW2 d9
  have x0 := drew_cell hW2 x0
  have i3 := drew_cell hW2 i3
  have d8 := drew_cell hW2 d8
  have d0 := drew_cell hW2 d0
  have x1 := drew_cell hW2 x1
  have x2 := drew_cell hW2 x2
  clear hW2
  repeat still_step
  refine wpStill_nil ?_
  go_upto_region 3 with (fail)
  refine still_all (by kernel_rfl) (by kernel_rfl) ?_
  intro W3 hW3
  obtain ⟨_, b1, -, b2, -, b3, -, -, -, b4, -⟩ := HSUM.out.1
  have b5 := HSUM.out.2.2.2.1
  have HB3 := Lib.hid (below_then HB2.out HB2.out.size (drew_below hW3))
  have i2 := drew_cell hW3 i2
  have i4 := drew_cell hW3 i4
  have d9 := drew_cell hW3 d9
  have i3 := drew_cell hW3 i3
  have d8 := drew_cell hW3 d8
  have d0 := drew_cell hW3 d0
  have x1 := drew_cell hW3 x1
  have x2 := drew_cell hW3 x2
  clear hW3
  repeat still_step
  refine wpStill_nil ?_
  clear b0 b1 b2 b3 b4 b5
  have i6 := (HBK.out.below HB3.out).cell HI.out.c6
  have f6 := (HBK.out.below HB3.out).froz 6
  have hb4 := (HBK.out.below HB3.out).set 6 (.slice Ak kl ck')
  have hi4 := HI.out.s6 (.slice Ak kl ck')
  have hf4 := (Fr.of_below (S := fun k => k = it) HB3.out).setCell (p := ⟨it, 6, none⟩) (.inl rfl) (.slice Ak kl ck')
  have HB4 := Lib.hid hb4
  have HI4 := Lib.hid hi4
  have HF4 := Lib.hid hf4
  have HT4 := Lib.hid (HT.out.fr hf4 HNE.out.1 HNE.out.2.1 HNE.out.2.2)
  clear hb4 hi4 hf4 HT x1 x0 i3 i4 d0 d9 x2
  go_upto_region 5 with (fail)
  generalize W3.setCell ⟨it, 6, none⟩ (.slice Ak kl ck') = W4 at *
  clear i2 d8 i6 f6 HB2 HB3 k3
  have i3 := HB4.out.cell HI4.out.c3
  have i2 := HB4.out.cell HI4.out.c2
  have i4 := HB4.out.cell HI4.out.c4
  have i7 := HB4.out.cell HI4.out.c7
  have f7 := HB4.out.froz 7
  have d8 : W4.cell? ⟨p, 8, none⟩ = some (.slice Kx kv.length ck) := (blk_cell HT4.out.cell 8).trans HC.out.c8
  have d9 : W4.cell? ⟨p, 9, none⟩ = some (.slice (some ad) nd.length c) := (blk_cell HT4.out.cell 9).trans HC.out.c9
  have x2 : W4.cell? ⟨ad.block, ad.off + (xa + 2), none⟩ = some (.int .i64 (vl : Int)) := by
    obtain ⟨ad', hN, h⟩ := HT4.out.at' (i := xa + 2) (by have := HXN0.out.2.2; omega)
    injection hN with hN
    subst hN
    rw [HXN0.out.1] at h
    exact h
  obtain ⟨_, -, b1, -, b2, -, b3, -, -, -, b4⟩ := HSUM.out.1
  have b5 := HSUM.out.2.2.2.1
  have b6 := HSUM.out.2.2.2.2
  go_upto_region 9 with (fail)
  refine still_tail 28 (by kernel_rfl) (by kernel_rfl) ?_
  intro W7 hW7
  have HB7 := Lib.hid (HB4.out.below (drew_below hW7))
  have HF7 := Lib.hid (HF4.out.then_ (Fr.of_below (drew_below hW7) (fun _ => False)) (fun k hk => hk.elim))
  have i2 := drew_cell hW7 i2
  have i4 := drew_cell hW7 i4
  have i7 := drew_cell hW7 i7
  have d8 := drew_cell hW7 d8
  have d9 := drew_cell hW7 d9
  have x2 := drew_cell hW7 x2
  have f7 := HB7.out.froz 7
  clear hW7 HB4 HF4
  simp only [List.take_succ_cons, List.take_zero, List.drop_succ_cons, List.drop_zero]
  repeat still_step
  refine wpStill_nil ?_
  clear b1 b2 b3 b4 b5 b6 d8 d9 x2 i2 i4
  have HB8 := Lib.hid (HB7.out.set 7 (.slice Av vl cv'))
  have HI8 := Lib.hid (HI4.out.s7 (.slice Av vl cv'))
  have HF8 := Lib.hid (HF7.out.setCell (p := ⟨it, 7, none⟩) (.inl rfl) (.slice Av vl cv'))
  go_wp2
  simp only [Exit.jump]
  go_ret
  have e1 := HL.out.1
  have e2 := HL.out.2.1
  have e3 := HL.out.2.2
  subst e1 e2 e3
  exact ⟨rfl, HF8.out, _, HB8.out, Ak, ck', Av, cv', HI8.out, HY.out.1, HY.out.2.1, HY.out.2.2.1, HY.out.2.2.2⟩

end Go.Proofs.YtdkkkikcigjlhaaGreatDoor.Md
