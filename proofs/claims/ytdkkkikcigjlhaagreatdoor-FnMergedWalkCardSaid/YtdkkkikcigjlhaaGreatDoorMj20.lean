/- The memory table's iterator: fill on a node, held against the range's lower end. The memory table's iterator: fill, whatever it stands on. The memory table's iterator at rest, and under its lock. -/
import Derived.Test.YtdkkkikcigjlhaaGreatDoorMj19
set_option linter.unusedVariables false
set_option linter.unusedSimpArgs false
namespace Go.Proofs.YtdkkkikcigjlhaaGreatDoor.Md
open Go.RowKit Go.Proofs.YtdkkkikcigjlhaaGreatDoor.Con Go.Proofs.YtdkkkikcigjlhaaGreatDoor.Run Go.Proofs.YtdkkkikcigjlhaaGreatDoorW.PrintWords Go.Proofs.YtdkkkikcigjlhaaGreatDoorW.PrintMore Go.Proofs.YtdkkkikcigjlhaaGreatDoor.Cmp Go.Sort Go.RwLone

set_option maxHeartbeats 3200000 in
set_option maxRecDepth 100000 in
theorem FillS_calls {w : World} {base p it s r mh c ck : Nat} {cs ics : Array Value} {V k v Sb Lb : Value} {N Kx : Option Addr} {l0 l4 n sz : Int} {q : Nat → Int} {kv nd : List Int} {ns : List Node} {f : List Int → List Int → Int} {fw : Bool} {st lim : Option (List Int)} {x : Node}
    (hT : Tab w base p cs (.slice Kx kv.length ck) (.slice N nd.length c) kv nd) (hC : Cs cs V r l0 l4 (.slice Kx kv.length ck) (.slice N nd.length c) q (mh : Int) n sz) (hS : Skip nd kv mh ns) (hl : nd.length ≤ 1099511627776) (hkl : kv.length ≤ 1099511627776) (hck : kv.length ≤ ck)
    (hV : Cmpr V f) (hbv : ∀ x ∈ ns, Byt x.key ∧ Byt x.val) (hb : Blk w it ics) (hi : Is ics p (.pointer (some ⟨s, 0, none⟩)) (x.a : Int) fw k v) (hx : x ∈ ns) (hs0 : w.cell? ⟨s, 0, none⟩ = some Sb) (hs1 : w.cell? ⟨s, 1, none⟩ = some Lb) (hst : Bd w Sb st) (hlim : Bd w Lb lim) (hsi : s ≠ it) (hsl : ∀ l a c, st = some l → Sb = .slice (some a) l.length c → a.block ≠ it) (hitp : it ≠ p) (hitk : some it ≠ (Value.slice Kx kv.length ck).ownBlock) (hitn : some it ≠ (Value.slice N nd.length c).ownBlock) :
    Calls Tryz.prog 175 #[.pointer (some ⟨it, 0, none⟩), .bool true, .bool false] w fun e w' => FillTold w it p (.pointer (some ⟨s, 0, none⟩)) fw kv Kx (if over f st x.key then some x else none) e w' := by
  have hxo := hS.ok x hx
  have hxe : x.a + 4 ≤ nd.length := by have := hxo.end_; omega
  have hx16 := hxo.a
  obtain ⟨o, Ak, Av, ck', cv', k1, k2, k3, k4, k5, k6, k7, k8⟩ := kv_cut (Kx := Kx) hxo hck
  obtain ⟨ad, hN, x0, x1, x2, _⟩ := node_reads hT hxo k1
  subst hN
  have d9 : w.cell? ⟨p, 9, none⟩ = some (.slice (some ad) nd.length c) := (blk_cell hT.cell 9).trans hC.c9
  have d8 : w.cell? ⟨p, 8, none⟩ = some (.slice Kx kv.length ck) := (blk_cell hT.cell 8).trans hC.c8
  have d0 : w.cell? ⟨p, 0, none⟩ = some V := (blk_cell hT.cell 0).trans hC.c0
  have i2 := hb.cell hi.c2
  have i3 := hb.cell hi.c3
  have i4 := hb.cell hi.c4
  have HT := Lib.hid hT
  have HC := Lib.hid hC
  have HBK := Lib.hid hb
  have HI := Lib.hid hi
  have HV := Lib.hid hV
  have HR := Lib.hid (And.intro hs0 (And.intro hs1 (And.intro hst (And.intro hlim hsl))))
  have HSUM := Lib.hid (And.intro (node_sums hxe hl) (kv_sums k2 hkl))
  have HY := Lib.hid (And.intro k5 (And.intro k6 (And.intro k7 k8)))
  have HBY := Lib.hid (hbv x hx)
  have HNE := Lib.hid (And.intro hitp (And.intro hitk (And.intro hitn hsi)))
  have z0 : ((x.a : Int) != 0) = true := nz hx16
  have HXN0 : Hid (G nd (x.a + 2) = (x.val.length : Int) ∧ x.a = x.a ∧ x.a + 4 ≤ nd.length) := Lib.hid ⟨hxo.vl, rfl, hxe⟩
  clear hT hC hS hl hkl hck hV hbv hb hi hx hs0 hs1 hst hlim hsl hsi hitp hitk hitn hxo hxe hx16 k1 k2 k5 k6 k7 k8
  generalize hkl : x.key.length = kl at *
  generalize hvl : x.val.length = vl at *
  generalize hxa : x.a = xa at *
  have HL := Lib.hid (And.intro hkl (And.intro hvl hxa))
  clear hkl hvl hxa
  go_enter Tryz.func175, Tryz.ntmps175
  go_wp2
  refine wp_scope_ahead 0 rfl ?_
  go_upto_region 2 with (fail)
  refine still_all (by kernel_rfl) (by kernel_rfl) ?_
  intro W2 hW2
  have b0 := HSUM.out.1.1
  have HB2 := Lib.hid (drew_below hW2)
  have i2 := drew_cell hW2 i2
  have i4 := drew_cell hW2 i4
  have d9 := drew_cell hW2 d9
  have x0 := drew_cell hW2 x0
  have i3 := drew_cell hW2 i3
  have d8 := drew_cell hW2 d8
  have d0 := drew_cell hW2 d0
  have x1 := drew_cell hW2 x1
  have x2 := drew_cell hW2 x2
  clear hW2
  repeat still_step
  refine wpStill_nil ?_
  go_upto_region 3 with (fail)
  refine still_all (by kernel_rfl) (by kernel_rfl) ?_
  intro W3 hW3
  obtain ⟨_, b1, -, b2, -, b3, -, -, -, b4, -⟩ := HSUM.out.1
  have b5 := HSUM.out.2.2.2.1
  have HB3 := Lib.hid (below_then HB2.out HB2.out.size (drew_below hW3))
  have i2 := drew_cell hW3 i2
  have i4 := drew_cell hW3 i4
  have d9 := drew_cell hW3 d9
  have i3 := drew_cell hW3 i3
  have d8 := drew_cell hW3 d8
  have d0 := drew_cell hW3 d0
  have x1 := drew_cell hW3 x1
  have x2 := drew_cell hW3 x2
  clear hW3
  repeat still_step
  refine wpStill_nil ?_
  clear b0 b1 b2 b3 b4 b5
  have i6 := (HBK.out.below HB3.out).cell HI.out.c6
  have f6 := (HBK.out.below HB3.out).froz 6
  have hb4 := (HBK.out.below HB3.out).set 6 (.slice Ak kl ck')
  have hi4 := HI.out.s6 (.slice Ak kl ck')
  have hf4 := (Fr.of_below (S := fun k => k = it) HB3.out).setCell (p := ⟨it, 6, none⟩) (.inl rfl) (.slice Ak kl ck')
  have hq3 := pw_cell_below HB3.out HR.out.1
  have hq4 := pw_cell_below HB3.out HR.out.2.1
  have hs0 : (W3.setCell ⟨it, 6, none⟩ (.slice Ak kl ck')).cell? ⟨s, 0, none⟩ = some Sb := hf4.cell HR.out.1 HNE.out.2.2.2
  have hs1 : (W3.setCell ⟨it, 6, none⟩ (.slice Ak kl ck')).cell? ⟨s, 1, none⟩ = some Lb := hf4.cell HR.out.2.1 HNE.out.2.2.2
  have HB4 := Lib.hid hb4
  have HI4 := Lib.hid hi4
  have HF4 := Lib.hid hf4
  have HT4 := Lib.hid (HT.out.fr hf4 HNE.out.1 HNE.out.2.1 HNE.out.2.2.1)
  clear hb4 hi4 hf4 hq3 hq4 HT x1 x0 i3 i4 d0 d9 x2
  go_upto_region 5 with (fail)
  generalize W3.setCell ⟨it, 6, none⟩ (.slice Ak kl ck') = W4 at *
  clear i2 d8 i6 f6 HB2 HB3 k3
  have i3 := HB4.out.cell HI4.out.c3
  go_upto_if 60 with (fail)
  go_cut [] from 60 to 135 (fun wc => Hid (over f st x.key = true ∧ Below W4.heap.size W4 wc))
  case first =>
    have hnn := fun (W : World) (a : Option Addr) (n c n' c' : Nat) => run_neq_slice_nil_any (P := Tryz.prog) W 25 5 a n c n' c' Tryz.underlying25
    have HW : ∀ d os, Hid (Below W4.heap.size W4 (grow (redrawn W4 d) os)) := fun d os => below_regrown W4 d os
    have I3 := cell_regrown i3
    have S1 := cell_regrown hs1
    have S0 := cell_regrown hs0
    go_upto_region 6 with (fail)
    refine wp_region_quiet_below (by kernel_rfl) (by kernel_rfl) ?_
    repeat (go_big_quiet_step (fail))
    refine wpQuiet_nil ?_
    intro _ hw'
    obtain ⟨⟨dq, osq⟩, hw''⟩ := hw'
    subst hw''
    have HWB := HW dq osq
    clear HW I3 S1 S0
    have HBX := Lib.hid (HB4.out.below HWB.out)
    have HTX := Lib.hid (HT4.out.below HWB.out)
    have HFX := Lib.hid (HF4.out.then_ (Fr.of_below HWB.out (fun _ => False)) (fun k hk => hk.elim))
    have i3 := HBX.out.cell HI4.out.c3
    have hs0 := pw_cell_below HWB.out hs0
    clear HB4 HT4 HF4 hs1
    generalize grow (redrawn W4 dq) osq = WX at *
    have HW : ∀ d os, Hid (Below WX.heap.size WX (grow (redrawn WX d) os)) := fun d os => below_regrown WX d os
    have I3 := cell_regrown i3
    have S0 := cell_regrown hs0
    cases st with
    | none =>
      obtain rfl : Sb = .slice none 0 0 := HR.out.2.2.1
      go_upto_region 7 with (fail)
      refine wp_region_quiet_below (by kernel_rfl) (by kernel_rfl) ?_
      repeat (go_big_quiet_step (fail))
      refine wpQuiet_nil ?_
      intro _ hw'
      obtain ⟨⟨dq2, osq2⟩, hw''⟩ := hw'
      subst hw''
      have hbw := HW dq2 osq2
      clear HW I3 S0 i3
      generalize grow (redrawn WX dq2) osq2 = W5 at *
      go_wp2
      go_meet
      case rel => exact Lib.hid ⟨rfl, below_then HWB.out HWB.out.size hbw.out⟩
    | some l =>
      obtain ⟨la, lc, rfl, hlc, hlb⟩ := HR.out.2.2.1
      have HLC := Lib.hid (HFX.out.C hlc (fun _ a ha => HR.out.2.2.2.2 l a lc rfl (by rw [ha])))
      have HLB := Lib.hid hlb
      clear hlc hlb
      obtain ⟨T, u, K, rfl, hnil, hmeth, hcall, hcmp⟩ := HV.out.make
      have HCMP := Lib.hid hcmp
      have d0 : WX.cell? ⟨p, 0, none⟩ = some (.iface T u) := (blk_cell HTX.out.cell 0).trans HC.out.c0
      have i2 := HBX.out.cell HI4.out.c2
      have i6 := HBX.out.cell HI4.out.c6
      have D0 := cell_regrown d0
      have I2 := cell_regrown i2
      have I6 := cell_regrown i6
      have HK : ∀ W, Below WX.heap.size WX W → Hid (Kd.C (Kd.int .u8) W Ak kl x.key) := fun W hW => by
        have h := HY.out.2.2.1 W (ints_C (own_reads' (HTX.out.below hW).kv))
        rw [HL.out.1] at h
        exact Lib.hid h
      have HL2 : ∀ W, Below WX.heap.size WX W → Hid (Kd.C (Kd.int .u8) W (some la) l.length l) := fun W hW => Lib.hid (Kd.C_below HLC.out hW)
      clear hcmp d0 i2 i6
      go_upto_region 7 with (fail)
      refine wp_region_quiet_below (by kernel_rfl) (by kernel_rfl) ?_
      repeat (go_big_quiet_step (with_reducible refine Calls.regrown_of (HCMP.out _ _ _ _ _ _ _ _ _ (HK _ (HW _ _).out).out (HL2 _ (HW _ _).out).out HBY.out.1 HLB.out)))
      refine wpQuiet_nil ?_
      intro _ hw'
      obtain ⟨⟨dq2, osq2⟩, hw''⟩ := hw'
      subst hw''
      have hbw := HW dq2 osq2
      clear HW I3 S0 i3 D0 I2 I6 HK HL2 hnil hmeth hcall HCMP hs0
      generalize grow (redrawn WX dq2) osq2 = W5 at *
      by_cases hcv : f x.key l < 0
      · have z1 : decide (f x.key l < 0) = true := decide_eq_true hcv
        have HCV := Lib.hid hcv
        have HB5 := Lib.hid (HBX.out.below hbw.out)
        have i4 := HB5.out.cell HI4.out.c4
        have f4 := HB5.out.froz 4
        have HB6 := Lib.hid (HB5.out.set 4 (.int .i64 0))
        have HI6 := Lib.hid (HI4.out.s4 0)
        have HF6 := Lib.hid ((HFX.out.then_ (Fr.of_below hbw.out (fun _ => False)) (fun k hk => hk.elim)).setCell (p := ⟨it, 4, none⟩) (.inl rfl) (.int .i64 0))
        clear HB5
        go_wp2
        go_step3
        simp only [Exit.then, Exit.inBlock, Exit.jump]
        refine ⟨rfl, ?_⟩
        generalize W5.setCell ⟨it, 4, none⟩ (.int .i64 0) = W6 at *
        have i6 := HB6.out.cell HI6.out.c6
        have f6 := HB6.out.froz 6
        have i7 := HB6.out.cell HI6.out.c7
        have f7 := HB6.out.froz 7
        have HB7 := Lib.hid ((HB6.out.set 6 nilS).set 7 nilS)
        have HI7 := Lib.hid ((HI6.out.s6 nilS).s7 nilS)
        have HF7 := Lib.hid ((HF6.out.setCell (p := ⟨it, 6, none⟩) (.inl rfl) nilS).setCell (p := ⟨it, 7, none⟩) (.inl rfl) nilS)
        clear HB6 HI6 HF6 i4 f4 hcv z1
        go_wp2
        rw [Exit.noGoto_ret]
        go_ret
        have e : over f (some l) x.key = false := over_no HCV.out
        rw [e]
        exact ⟨rfl, HF7.out, _, HB7.out, HI7.out⟩
      · have z1 : decide (f x.key l < 0) = false := decide_eq_false hcv
        have HCV := Lib.hid hcv
        go_wp2
        go_meet
        case rel => exact Lib.hid ⟨over_yes (by have := HCV.out; omega), below_then HWB.out HWB.out.size hbw.out⟩
  case rest =>
    have hw4 := hcut.out.2
    have HU := Lib.hid hcut.out.1
    have HB5 := Lib.hid (HB4.out.below hw4)
    have HT5 := Lib.hid (HT4.out.below hw4)
    have HF5 := Lib.hid (HF4.out.then_ (Fr.of_below hw4 (fun _ => False)) (fun k hk => hk.elim))
    clear hw4 hcut HB4 HT4 HF4 hs0 hs1 i3
    have i2 := HB5.out.cell HI4.out.c2
    have i4 := HB5.out.cell HI4.out.c4
    have i7 := HB5.out.cell HI4.out.c7
    have f7 := HB5.out.froz 7
    have d8 : wc.cell? ⟨p, 8, none⟩ = some (.slice Kx kv.length ck) := (blk_cell HT5.out.cell 8).trans HC.out.c8
    have d9 : wc.cell? ⟨p, 9, none⟩ = some (.slice (some ad) nd.length c) := (blk_cell HT5.out.cell 9).trans HC.out.c9
    have x2 : wc.cell? ⟨ad.block, ad.off + (xa + 2), none⟩ = some (.int .i64 (vl : Int)) := by
      obtain ⟨ad', hN, h⟩ := HT5.out.at' (i := xa + 2) (by have := HXN0.out.2.2; omega)
      injection hN with hN
      subst hN
      rw [HXN0.out.1] at h
      exact h
    obtain ⟨_, -, b1, -, b2, -, b3, -, -, -, b4⟩ := HSUM.out.1
    have b5 := HSUM.out.2.2.2.1
    have b6 := HSUM.out.2.2.2.2
    go_upto_region 9 with (fail)
    refine still_tail 28 (by kernel_rfl) (by kernel_rfl) ?_
    intro W7 hW7
    have HB7 := Lib.hid (HB5.out.below (drew_below hW7))
    have HF7 := Lib.hid (HF5.out.then_ (Fr.of_below (drew_below hW7) (fun _ => False)) (fun k hk => hk.elim))
    have i2 := drew_cell hW7 i2
    have i4 := drew_cell hW7 i4
    have i7 := drew_cell hW7 i7
    have d8 := drew_cell hW7 d8
    have d9 := drew_cell hW7 d9
    have x2 := drew_cell hW7 x2
    have f7 := HB7.out.froz 7
    clear hW7 HB5 HF5
    simp only [List.take_succ_cons, List.take_zero, List.drop_succ_cons, List.drop_zero]
    repeat still_step
    refine wpStill_nil ?_
    clear b1 b2 b3 b4 b5 b6 d8 d9 x2 i2 i4
    have HB8 := Lib.hid (HB7.out.set 7 (.slice Av vl cv'))
    have HI8 := Lib.hid (HI4.out.s7 (.slice Av vl cv'))
    have HF8 := Lib.hid (HF7.out.setCell (p := ⟨it, 7, none⟩) (.inl rfl) (.slice Av vl cv'))
    go_wp2
    simp only [Exit.jump]
    go_ret
    rw [HU.out, if_pos rfl]
    have e1 := HL.out.1
    have e2 := HL.out.2.1
    have e3 := HL.out.2.2
    subst e1 e2 e3
    exact ⟨rfl, HF8.out, _, HB8.out, Ak, ck', Av, cv', HI8.out, HY.out.1, HY.out.2.1, HY.out.2.2.1, HY.out.2.2.2⟩

def Rg2 (w : World) (ok : Nat → Prop) (sv : Value) (st lim : Option (List Int)) : Prop :=
  (sv = .pointer none ∧ st = none ∧ lim = none) ∨ ∃ s Sb Lb, sv = .pointer (some ⟨s, 0, none⟩) ∧ ok s ∧ w.cell? ⟨s, 0, none⟩ = some Sb ∧ w.cell? ⟨s, 1, none⟩ = some Lb ∧ Bd w Sb st ∧ Bd w Lb lim ∧
    (∀ l a c, st = some l → Sb = .slice (some a) l.length c → ok a.block) ∧ (∀ l a c, lim = some l → Lb = .slice (some a) l.length c → ok a.block)

theorem Bd.keep {w w1 : World} {v : Value} {b : Option (List Int)} {ok : Nat → Prop} (h : Bd w v b) (ho : ∀ l a c, b = some l → v = .slice (some a) l.length c → ok a.block) (hk : ∀ k, ok k → k < w.heap.size → w1.heap[k]? = w.heap[k]?) : Bd w1 v b := by
  cases b with
  | none => exact h
  | some l =>
    obtain ⟨a, c, rfl, h2, h3⟩ := h
    refine ⟨a, c, rfl, ?_, h3⟩
    obtain ⟨g1, g2, g3⟩ := C_ints h2
    refine ints_C ⟨g1, g2, fun hp => ?_⟩
    obtain ⟨a', ha, hc⟩ := g3 hp
    injection ha with ha
    subst ha
    refine ⟨a, rfl, fun j hj => ?_⟩
    have hcj := hc j hj
    have hlt := World.block_lt_of_cell? w _ hcj
    rw [add_block] at hlt
    have hb := hk a.block (ho l a c rfl rfl) hlt
    unfold World.cell? at hcj ⊢
    rw [add_block] at hcj ⊢
    rw [hb]
    exact hcj

theorem Rg2.keep {w w1 : World} {ok : Nat → Prop} {sv : Value} {st lim : Option (List Int)} (h : Rg2 w ok sv st lim) (hk : ∀ k, ok k → k < w.heap.size → w1.heap[k]? = w.heap[k]?) : Rg2 w1 ok sv st lim := by
  rcases h with h | ⟨s, Sb, Lb, h1, h2, h3, h4, h5, h6, h7, h8⟩
  · exact .inl h
  · have hlt := World.block_lt_of_cell? w _ h3
    have hb := hk s h2 hlt
    refine .inr ⟨s, Sb, Lb, h1, h2, ?_, ?_, h5.keep h7 hk, h6.keep h8 hk, h7, h8⟩
    · unfold World.cell? at h3 ⊢
      rw [hb]
      exact h3
    · unfold World.cell? at h4 ⊢
      rw [hb]
      exact h4

def addr : Option Node → Nat
  | none => 0
  | some x => x.a

section
variable {w : World} {base p it r mh c ck : Nat} {cs ics : Array Value} {V sv k v : Value} {N Kx : Option Addr} {l0 l4 n sz : Int} {q : Nat → Int} {kv nd : List Int} {ns : List Node} {f : List Int → List Int → Int} {fw : Bool} {st lim : Option (List Int)} {o : Option Node}

theorem FillU_calls (hT : Tab w base p cs (.slice Kx kv.length ck) (.slice N nd.length c) kv nd) (hC : Cs cs V r l0 l4 (.slice Kx kv.length ck) (.slice N nd.length c) q (mh : Int) n sz) (hS : Skip nd kv mh ns) (hl : nd.length ≤ 1099511627776) (hkl : kv.length ≤ 1099511627776) (hck : kv.length ≤ ck)
    (hV : Cmpr V f) (hbv : ∀ x ∈ ns, Byt x.key ∧ Byt x.val) (hb : Blk w it ics) (hi : Is ics p sv ((addr o : Nat) : Int) fw k v) (ho : ∀ x, o = some x → x ∈ ns) (hr : Rg2 w (fun k => k ≠ it) sv st lim) (hitp : it ≠ p) (hitk : some it ≠ (Value.slice Kx kv.length ck).ownBlock) (hitn : some it ≠ (Value.slice N nd.length c).ownBlock) :
    Calls Tryz.prog 175 #[.pointer (some ⟨it, 0, none⟩), .bool false, .bool true] w fun e w' => FillTold w it p sv fw kv Kx (o.filter fun x => under f lim x.key) e w' := by
  cases o with
  | none => exact fill_zero hb hi
  | some x =>
    rcases hr with ⟨rfl, rfl, rfl⟩ | ⟨s, Sb, Lb, rfl, h2, h3, h4, h5, h6, h7, h8⟩
    · exact FillN_calls (f := f) (ns := ns) hT hC hS hl hkl hck hV hbv hb hi (ho x rfl) hitp hitk hitn
    · have h := FillL_calls hT hC hS hl hkl hck hV hbv hb hi (ho x rfl) h3 h4 h5 h6 h2 h8 hitp hitk hitn
      have e : (if under f lim x.key then some x else none) = (some x).filter fun x => under f lim x.key := by rw [Option.filter_some]
      rw [e] at h
      exact h

theorem FillO_calls (hT : Tab w base p cs (.slice Kx kv.length ck) (.slice N nd.length c) kv nd) (hC : Cs cs V r l0 l4 (.slice Kx kv.length ck) (.slice N nd.length c) q (mh : Int) n sz) (hS : Skip nd kv mh ns) (hl : nd.length ≤ 1099511627776) (hkl : kv.length ≤ 1099511627776) (hck : kv.length ≤ ck)
    (hV : Cmpr V f) (hbv : ∀ x ∈ ns, Byt x.key ∧ Byt x.val) (hb : Blk w it ics) (hi : Is ics p sv ((addr o : Nat) : Int) fw k v) (ho : ∀ x, o = some x → x ∈ ns) (hr : Rg2 w (fun k => k ≠ it) sv st lim) (hitp : it ≠ p) (hitk : some it ≠ (Value.slice Kx kv.length ck).ownBlock) (hitn : some it ≠ (Value.slice N nd.length c).ownBlock) :
    Calls Tryz.prog 175 #[.pointer (some ⟨it, 0, none⟩), .bool true, .bool false] w fun e w' => FillTold w it p sv fw kv Kx (o.filter fun x => over f st x.key) e w' := by
  cases o with
  | none => exact fill_zero hb hi
  | some x =>
    rcases hr with ⟨rfl, rfl, rfl⟩ | ⟨s, Sb, Lb, rfl, h2, h3, h4, h5, h6, h7, h8⟩
    · exact FillN_calls (f := f) (ns := ns) hT hC hS hl hkl hck hV hbv hb hi (ho x rfl) hitp hitk hitn
    · have h := FillS_calls hT hC hS hl hkl hck hV hbv hb hi (ho x rfl) h3 h4 h5 h6 h2 h7 hitp hitk hitn
      have e : (if over f st x.key then some x else none) = (some x).filter fun x => over f st x.key := by rw [Option.filter_some]
      rw [e] at h
      exact h
end

end Go.Proofs.YtdkkkikcigjlhaaGreatDoor.Md

namespace Go.Proofs.YtdkkkikcigjlhaaGreatDoor.Md
open Go.RowKit Go.Proofs.YtdkkkikcigjlhaaGreatDoor.Con Go.Proofs.YtdkkkikcigjlhaaGreatDoor.Run Go.Proofs.YtdkkkikcigjlhaaGreatDoorW.PrintWords Go.Proofs.YtdkkkikcigjlhaaGreatDoorW.PrintMore Go.Proofs.YtdkkkikcigjlhaaGreatDoor.Cmp Go.Sort Go.RwLone

set_option maxHeartbeats 1600000 in
theorem Released_calls {w : World} {it : Nat} (h : w.cell? ⟨it, 1, none⟩ = some (.bool false)) :
    Calls Tryz.prog 174 #[.pointer (some ⟨it, 0, none⟩)] w fun e w' => e = .returned (.bool false) ∧ w = w' := by
  go_enter Tryz.func174, Tryz.ntmps174
  go_wp2
  go_ret
  exact ⟨rfl, rfl⟩

def MemD.apart (D : MemD) (p it k : Nat) : Prop := k ≠ it ∧ ¬ D.own p k

structure MIt (w : World) (D : MemD) (base p : Nat) (V : Value) (f : List Int → List Int → Int) (ns : List Node) (kb nb it : Nat) (sv : Value) (st lim : Option (List Int)) (fw : Bool) (o : Option Node) : Prop where
  M : Mem D w base p V f ns kb nb
  blk : ∃ ics, Blk w it ics ∧ ItAt D.kv D.Kx ics p sv fw o
  on : ∀ x, o = some x → x ∈ ns
  rg : Rg2 w (D.apart p it) sv st lim
  ne : ¬ D.own p it

structure Lk (w W : World) (D : MemD) (base p : Nat) (V : Value) (f : List Int → List Int → Int) (ns : List Node) (kb nb it : Nat) (sv : Value) (st lim : Option (List Int)) (cs ics : Array Value) (l4 : Int) : Prop where
  T : Tab W base p cs D.vk D.vn D.kv D.nd
  C : Cs cs V D.r 0 l4 D.vk D.vn D.q (D.mh : Int) (ns.length : Int) (weigh ns : Int)
  Rn : Rnd W D.r D.gr
  B : Blk W it ics
  rg : Rg2 W (D.apart p it) sv st lim
  F : Fr w W (fun k => k = it ∨ k = p)
  M : Mem D w base p V f ns kb nb
  ne : ¬ D.own p it

section
variable {w W W1 : World} {D : MemD} {base p kb nb it : Nat} {V sv : Value} {f : List Int → List Int → Int} {ns : List Node} {st lim : Option (List Int)} {cs ics : Array Value} {l4 : Int} {fw : Bool} {o : Option Node}

theorem Lk.of (h : MIt w D base p V f ns kb nb it sv st lim fw o) (hb : Blk w it ics) : Lk w w D base p V f ns kb nb it sv st lim D.cs ics 0 := ⟨h.M.T, h.M.C, h.M.R, hb, h.rg, Fr.refl _ _, h.M, h.ne⟩

theorem Lk.below (h : Lk w W D base p V f ns kb nb it sv st lim cs ics l4) (hb : Below W.heap.size W W1) : Lk w W1 D base p V f ns kb nb it sv st lim cs ics l4 :=
  ⟨h.T.below hb, h.C, h.Rn.kept (row := none) (grown_of_below hb none) (by simp) (by simp), h.B.below hb, h.rg.keep (fun k _ hk => hb.block k hk), h.F.then_ (Fr.of_below hb (fun _ => False)) (fun k hk => hk.elim), h.M, h.ne⟩

theorem Lk.fr {ics' : Array Value} (h : Lk w W D base p V f ns kb nb it sv st lim cs ics l4) (hf : Fr W W1 (fun k => k = it)) (hb : Blk W1 it ics') : Lk w W1 D base p V f ns kb nb it sv st lim cs ics' l4 := by
  have hne := h.ne
  have hk : ∀ k, D.own p k → k < W.heap.size → W1.heap[k]? = W.heap[k]? := fun k ho hlt => hf.block k hlt (fun e => hne (e ▸ ho))
  obtain ⟨a, ⟨hi, lo, b⟩, c⟩ := h.Rn
  exact ⟨h.T.fr hf (fun e => hne (.inr (.inl e))) (fun e => hne (.inr (.inr (.inr (.inl e))))) (fun e => hne (.inr (.inr (.inr (.inr e))))), h.C, ⟨(hk _ (.inl rfl) (blk_lt a)).trans a, ⟨hi, lo, (hk _ (.inr (.inr (.inl rfl))) (blk_lt b)).trans b⟩, c⟩, hb,
    h.rg.keep (fun k hk hlt => hf.block k hlt hk.1), h.F.then_ hf (fun k hk => .inl (.inl hk)), h.M, h.ne⟩

theorem Lk.setIt (h : Lk w W D base p V f ns kb nb it sv st lim cs ics l4) (i : Nat) (u : Value) : Lk w (W.setCell ⟨it, i, none⟩ u) D base p V f ns kb nb it sv st lim cs (ics.setIfInBounds i u) l4 :=
  h.fr ((Fr.refl W (fun k => k = it)).setCell (p := ⟨it, i, none⟩) (.inl rfl) u) (h.B.set i u)

theorem Lk.lock (h : Lk w W D base p V f ns kb nb it sv st lim cs ics l4) (l : Int) : Lk w (W.setCell ⟨p, 6, none⟩ (.int .i32 l)) D base p V f ns kb nb it sv st lim (cs.setIfInBounds 6 (.int .i32 l)) ics l := by
  have hpi : it ≠ p := fun e => h.ne (.inr (.inl e))
  have ha := h.T.away h.Rn
  refine ⟨h.T.set 6 _, h.C.set6 l, h.Rn.set ha.rp ha.gp _, (Below.heap_setCell _ _ _ it hpi).trans h.B, h.rg.keep (fun k hk hlt => Below.heap_setCell _ _ _ k (fun e => hk.2 (.inr (.inl e)))), h.F.setCell (p := ⟨p, 6, none⟩) (.inl (.inr rfl)) _, h.M, h.ne⟩

theorem Lk.rest (h : Lk w W D base p V f ns kb nb it sv st lim cs ics 0) (hi : ItAt D.kv D.Kx ics p sv fw o) (ho : ∀ x, o = some x → x ∈ ns) : MIt W { D with cs := cs } base p V f ns kb nb it sv st lim fw o :=
  ⟨⟨h.T, h.C, h.M.S, h.Rn, h.M.cm, h.M.sorted, h.M.byt, h.M.cap, h.M.kvb, h.M.ndb, h.M.few, h.M.light, h.M.far⟩, ⟨ics, h.B, hi⟩, ho, h.rg, h.ne⟩

theorem Lk.cellP (h : Lk w W D base p V f ns kb nb it sv st lim cs ics l4) {i : Nat} {u : Value} (hu : cs[i]? = some u) : W.cell? ⟨p, i, none⟩ = some u := (blk_cell h.T.cell i).trans hu
theorem Lk.fP (h : Lk w W D base p V f ns kb nb it sv st lim cs ics l4) (i : Nat) : W.frozen? ⟨p, i, none⟩ = false := blk_frozen h.T.cell i

theorem Lk.rgF (h : Lk w W D base p V f ns kb nb it sv st lim cs ics l4) : Rg2 W (fun k => k ≠ it) sv st lim := by
  rcases h.rg with q | ⟨s, Sb, Lb, h1, h2, h3, h4, h5, h6, h7, h8⟩
  · exact .inl q
  · exact .inr ⟨s, Sb, Lb, h1, h2.1, h3, h4, h5, h6, fun l a c e1 e2 => (h7 l a c e1 e2).1, fun l a c e1 e2 => (h8 l a c e1 e2).1⟩

theorem Lk.fillU (h : Lk w W D base p V f ns kb nb it sv st lim cs ics l4) {k v : Value} (hkb : kb ≤ 1099511627776) (hnb : nb ≤ 1099511627776) (hi : Is ics p sv ((addr o : Nat) : Int) fw k v) (ho : ∀ x, o = some x → x ∈ ns) :
    Calls Tryz.prog 175 #[.pointer (some ⟨it, 0, none⟩), .bool false, .bool true] W fun e w' => ∃ b : Bool, e = .returned (.bool b) ∧ Hid (b = (o.filter fun x => under f lim x.key).isSome) ∧ ∃ ics', ItAt D.kv D.Kx ics' p sv fw (o.filter fun x => under f lim x.key) ∧ Lk w w' D base p V f ns kb nb it sv st lim cs ics' l4 := by
  refine (FillU_calls (N := D.N) (c := D.c) (Kx := D.Kx) (ck := D.ck) (nd := D.nd) (kv := D.kv) h.T h.C h.M.S (Nat.le_trans h.M.ndb hnb) (Nat.le_trans h.M.kvb hkb) h.M.cap h.M.cm h.M.byt h.B hi ho h.rgF (fun e => h.ne (.inr (.inl e))) (fun e => h.ne (.inr (.inr (.inr (.inl e))))) (fun e => h.ne (.inr (.inr (.inr (.inr e)))))).mono ?_
  rintro e w' ⟨rfl, hf, ics', hb, hia⟩
  exact ⟨_, rfl, Lib.hid rfl, ics', hia, h.fr hf hb⟩

theorem Lk.fillO (h : Lk w W D base p V f ns kb nb it sv st lim cs ics l4) {k v : Value} (hkb : kb ≤ 1099511627776) (hnb : nb ≤ 1099511627776) (hi : Is ics p sv ((addr o : Nat) : Int) fw k v) (ho : ∀ x, o = some x → x ∈ ns) :
    Calls Tryz.prog 175 #[.pointer (some ⟨it, 0, none⟩), .bool true, .bool false] W fun e w' => ∃ b : Bool, e = .returned (.bool b) ∧ Hid (b = (o.filter fun x => over f st x.key).isSome) ∧ ∃ ics', ItAt D.kv D.Kx ics' p sv fw (o.filter fun x => over f st x.key) ∧ Lk w w' D base p V f ns kb nb it sv st lim cs ics' l4 := by
  refine (FillO_calls (N := D.N) (c := D.c) (Kx := D.Kx) (ck := D.ck) (nd := D.nd) (kv := D.kv) h.T h.C h.M.S (Nat.le_trans h.M.ndb hnb) (Nat.le_trans h.M.kvb hkb) h.M.cap h.M.cm h.M.byt h.B hi ho h.rgF (fun e => h.ne (.inr (.inl e))) (fun e => h.ne (.inr (.inr (.inr (.inl e))))) (fun e => h.ne (.inr (.inr (.inr (.inr e)))))).mono ?_
  rintro e w' ⟨rfl, hf, ics', hb, hia⟩
  exact ⟨_, rfl, Lib.hid rfl, ics', hia, h.fr hf hb⟩
end

theorem ItAt.is {kv : List Int} {Kx : Option Addr} {ics : Array Value} {p : Nat} {sv : Value} {fw : Bool} {o : Option Node} (h : ItAt kv Kx ics p sv fw o) : ∃ A n c B m d, Is ics p sv ((addr o : Nat) : Int) fw (.slice A n c) (.slice B m d) := by
  cases o with
  | none => exact ⟨_, _, _, _, _, _, h⟩
  | some x =>
    obtain ⟨A, c, B, d, h, _⟩ := h
    exact ⟨_, _, _, _, _, _, h⟩

end Go.Proofs.YtdkkkikcigjlhaaGreatDoor.Md
