/- The memory table's iterator: Seek. -/
import Derived.Test.YtdkkkikcigjlhaaGreatDoorMj22
set_option linter.unusedVariables false
set_option linter.unusedSimpArgs false
namespace Go.Proofs.YtdkkkikcigjlhaaGreatDoor.Md
open Go.RowKit Go.Proofs.YtdkkkikcigjlhaaGreatDoor.Con Go.Proofs.YtdkkkikcigjlhaaGreatDoor.Run Go.Proofs.YtdkkkikcigjlhaaGreatDoorW.PrintWords Go.Proofs.YtdkkkikcigjlhaaGreatDoorW.PrintMore Go.Proofs.YtdkkkikcigjlhaaGreatDoor.Cmp Go.Sort Go.RwLone

set_option maxHeartbeats 3200000 in
set_option maxRecDepth 100000 in
theorem Seek_a {w : World} {D : MemD} {base p kb nb it : Nat} {V sv : Value} {f : List Int → List Int → Int} {ns P R : List Node} {lim : Option (List Int)} {fw : Bool} {o : Option Node} {key : List Int} {A0 : Option Addr} {ca : Nat} (h : MIt w D base p V f ns kb nb it sv none lim fw o) (hkb : kb ≤ 1099511627776) (hnb : nb ≤ 1099511627776) (hns : ns = P ++ R) (hP : ∀ x ∈ P, f x.key key < 0) (hR : ∀ x ∈ R, 0 ≤ f x.key key) (hA : Kd.C (Kd.int .u8) w A0 key.length key) (hkey : Byt key) (hneA : 0 < key.length → ∀ a, A0 = some a → ¬ (a.block = it ∨ a.block = p)) :
    Calls Tryz.prog 170 #[.pointer (some ⟨it, 0, none⟩), .slice A0 key.length ca] w fun e w' => Moved w D base p V f ns kb nb it sv none lim true (R.head?.filter fun x => under f lim x.key) e w' := by
  obtain ⟨ics, hb, hia⟩ := h.blk
  obtain ⟨A1, n1, c1, B1, m1, d1, hi⟩ := hia.is
  have HK := Lib.hid (And.intro hkb hnb)
  have hL := Lk.of h hb
  have e1 := hb.cell hi.c1
  have e5 := hb.cell hi.c5
  have f5 := hb.froz 5
  have e2 := hb.cell hi.c2
  have HL1 := Lib.hid (hL.setIt 5 (.bool true))
  have HI1 := Lib.hid (hi.s5 true)
  have HPR := Lib.hid (And.intro hns (And.intro hP hR))
  have HA := Lib.hid (And.intro hA (And.intro hkey hneA))
  have HREL := Lib.hid (Released_calls e1)
  clear h hb hia hi hL hkb hnb hns hP hR hA hkey hneA
  go_enter_defers Tryz.func170, Tryz.ntmps170
  go_upto_region 5 with (go_at_call 174; (with_reducible refine HREL.out.mono ?_); rintro e w' ⟨rfl, rfl⟩)
  generalize w.setCell ⟨it, 5, none⟩ (.bool true) = w1 at *
  have e2 := HL1.out.B.cell HI1.out.c2
  have q6 := HL1.out.cellP HL1.out.C.c6
  have g6 := HL1.out.fP 6
  go_wp2_with (fail)
  refine (rlock_open rwRLib p 2 0 _ _ _ (HL1.out.cellP HL1.out.C.c2) (HL1.out.cellP HL1.out.C.c5) q6 g6 (by rw [up1]; decide)).mono ?_
  rintro e w' ⟨rfl, rfl⟩
  simp only [up1, show 2 + 4 = 6 from rfl]
  have HL2 := Lib.hid (HL1.out.lock 1)
  clear q6 g6 HL1 e1 e5 f5
  generalize w1.setCell ⟨p, 6, none⟩ (.int .i32 1) = w2 at *
  have e2 := HL2.out.B.cell HI1.out.c2
  have e3 := HL2.out.B.cell HI1.out.c3
  have hA2 : Hid (Kd.C (Kd.int .u8) w2 A0 key.length key) := Lib.hid (HL2.out.F.C HA.out.1 HA.out.2.2)
  have hnn := fun (W : World) (a : Option Addr) (n c n' c' : Nat) => run_neq_slice_nil_any (P := Tryz.prog) W 25 5 a n c n' c' Tryz.underlying25
  rcases HL2.out.rg with ⟨rfl, _, _⟩ | ⟨s, Sb, Lb, rfl, hs1, hs2, hs3, hs4, hs5, hs6, hs7⟩
  · have E3 := cell_regrown e3
    have E2 := cell_regrown e2
    go_upto_region 7 with (fail)
    refine wp_region_quiet_below (by kernel_rfl) (by kernel_rfl) ?_
    repeat (go_big_quiet_step (fail))
    refine wpQuiet_nil ?_
    intro _ hw'
    obtain ⟨⟨dq, osq⟩, hw''⟩ := hw'
    subst hw''
    have HWB := Lib.hid (below_regrown w2 dq osq)
    have HL3 := Lib.hid (HL2.out.below HWB.out)
    clear E3 E2
    generalize grow (redrawn w2 dq) osq = w3 at *
    have e2 := HL3.out.B.cell HI1.out.c2
    have e3 := HL3.out.B.cell HI1.out.c3
    have HGF := Lib.hid (GF_calls (N := D.N) (c := D.c) (Kx := D.Kx) (ck := D.ck) (nd := D.nd) (kv := D.kv) (ca := ca) HL3.out.T HL3.out.C HL3.out.M.S (Nat.le_trans HL3.out.M.ndb HK.out.2) (Nat.le_trans HL3.out.M.kvb HK.out.1) HL3.out.M.cap HL3.out.M.cm HPR.out.1 HPR.out.2.1 HPR.out.2.2 (sorted_right HPR.out.1 HL3.out.M.sorted) HA.out.2.1 (fun x hx => (HL3.out.M.byt x hx).1) (Kd.C_below hA2.out HWB.out))
    go_upto_region 10 with (go_at_call 89; (with_reducible refine HGF.out.mono ?_); rintro e w5 ⟨ex, rfl, hex, hb5⟩; have h4 := (HL3.out.below hb5).B.cell HI1.out.c4; have g4 := (HL3.out.below hb5).B.froz 4)
    have HL4 := Lib.hid ((HL3.out.below hb5).setIt 4 (.int .i64 ((addr R.head? : Nat) : Int)))
    have HI3 := Lib.hid (HI1.out.s4 ((addr R.head? : Nat) : Int))
    have HFILL := Lib.hid (HL4.out.fillU (o := R.head?) HK.out.1 HK.out.2 HI3.out (fun x hx => by rw [HPR.out.1]; exact List.mem_append_right _ (List.mem_of_mem_head? hx)))
    rw [nxt_head (fun x hx => (HL3.out.M.S.ok x (by rw [HPR.out.1]; exact List.mem_append_right _ hx)).h1)]
    clear h4 g4 hb5 hex HGF HL3
    go_wp2_with (go_at_call 175; (with_reducible refine HFILL.out.mono ?_); rintro e w4 ⟨bb, rfl, hbb, ics4, hia4, hL4⟩)
    refine leaves_cons (f := 92) (args := #[.pointer (some ⟨p, 2, none⟩)]) (by simp) (by simp [go_sem]) ?_
    refine (runlock_deferred rwRLib p 2 1 (.int .i32 0) (.int .u32 0) .returning _ (hL4.cellP hL4.C.c2) (hL4.cellP hL4.C.c4) (hL4.cellP hL4.C.c6) (hL4.fP 6) (by rw [down1]; decide)).mono ?_
    rintro e u' w'' ⟨rfl, rfl, rfl⟩
    rw [down1]
    have hL5 := hL4.lock 0
    exact ⟨_, results_tmp rfl _ _ _, by rw [← hbb.out]; rfl, _, hL5.rest hia4 (fun x hx => by rw [HPR.out.1]; exact List.mem_append_right _ (List.mem_of_mem_head? (Option.mem_of_mem_filter hx))), hL5.F⟩
  · obtain rfl : Sb = .slice none 0 0 := hs4
    have S2 := cell_regrown hs2
    have E3 := cell_regrown e3
    have E2 := cell_regrown e2
    go_upto_region 7 with (fail)
    refine wp_region_quiet_below (by kernel_rfl) (by kernel_rfl) ?_
    repeat (go_big_quiet_step (fail))
    refine wpQuiet_nil ?_
    intro _ hw'
    obtain ⟨⟨dq, osq⟩, hw''⟩ := hw'
    subst hw''
    have HWB := Lib.hid (below_regrown w2 dq osq)
    have HL3 := Lib.hid (HL2.out.below HWB.out)
    clear E3 E2 S2
    generalize grow (redrawn w2 dq) osq = w3 at *
    have e2 := HL3.out.B.cell HI1.out.c2
    have e3 := HL3.out.B.cell HI1.out.c3
    have HGF := Lib.hid (GF_calls (N := D.N) (c := D.c) (Kx := D.Kx) (ck := D.ck) (nd := D.nd) (kv := D.kv) (ca := ca) HL3.out.T HL3.out.C HL3.out.M.S (Nat.le_trans HL3.out.M.ndb HK.out.2) (Nat.le_trans HL3.out.M.kvb HK.out.1) HL3.out.M.cap HL3.out.M.cm HPR.out.1 HPR.out.2.1 HPR.out.2.2 (sorted_right HPR.out.1 HL3.out.M.sorted) HA.out.2.1 (fun x hx => (HL3.out.M.byt x hx).1) (Kd.C_below hA2.out HWB.out))
    go_upto_region 10 with (go_at_call 89; (with_reducible refine HGF.out.mono ?_); rintro e w5 ⟨ex, rfl, hex, hb5⟩; have h4 := (HL3.out.below hb5).B.cell HI1.out.c4; have g4 := (HL3.out.below hb5).B.froz 4)
    have HL4 := Lib.hid ((HL3.out.below hb5).setIt 4 (.int .i64 ((addr R.head? : Nat) : Int)))
    have HI3 := Lib.hid (HI1.out.s4 ((addr R.head? : Nat) : Int))
    have HFILL := Lib.hid (HL4.out.fillU (o := R.head?) HK.out.1 HK.out.2 HI3.out (fun x hx => by rw [HPR.out.1]; exact List.mem_append_right _ (List.mem_of_mem_head? hx)))
    rw [nxt_head (fun x hx => (HL3.out.M.S.ok x (by rw [HPR.out.1]; exact List.mem_append_right _ hx)).h1)]
    clear h4 g4 hb5 hex HGF HL3
    go_wp2_with (go_at_call 175; (with_reducible refine HFILL.out.mono ?_); rintro e w4 ⟨bb, rfl, hbb, ics4, hia4, hL4⟩)
    refine leaves_cons (f := 92) (args := #[.pointer (some ⟨p, 2, none⟩)]) (by simp) (by simp [go_sem]) ?_
    refine (runlock_deferred rwRLib p 2 1 (.int .i32 0) (.int .u32 0) .returning _ (hL4.cellP hL4.C.c2) (hL4.cellP hL4.C.c4) (hL4.cellP hL4.C.c6) (hL4.fP 6) (by rw [down1]; decide)).mono ?_
    rintro e u' w'' ⟨rfl, rfl, rfl⟩
    rw [down1]
    have hL5 := hL4.lock 0
    exact ⟨_, results_tmp rfl _ _ _, by rw [← hbb.out]; rfl, _, hL5.rest hia4 (fun x hx => by rw [HPR.out.1]; exact List.mem_append_right _ (List.mem_of_mem_head? (Option.mem_of_mem_filter hx))), hL5.F⟩

set_option maxHeartbeats 3200000 in
set_option maxRecDepth 100000 in
theorem Seek_b {w : World} {D : MemD} {base p kb nb it : Nat} {V sv : Value} {f : List Int → List Int → Int} {ns P R : List Node} {lim : Option (List Int)} {fw : Bool} {o : Option Node} {l : List Int} {key : List Int} {A0 : Option Addr} {ca : Nat} (h : MIt w D base p V f ns kb nb it sv (some l) lim fw o) (hkb : kb ≤ 1099511627776) (hnb : nb ≤ 1099511627776) (hns : ns = P ++ R) (hP : ∀ x ∈ P, f x.key l < 0) (hR : ∀ x ∈ R, 0 ≤ f x.key l) (hA : Kd.C (Kd.int .u8) w A0 key.length key) (hkey : Byt key) (hneA : 0 < key.length → ∀ a, A0 = some a → ¬ (a.block = it ∨ a.block = p)) (hlt : f key l < 0) :
    Calls Tryz.prog 170 #[.pointer (some ⟨it, 0, none⟩), .slice A0 key.length ca] w fun e w' => Moved w D base p V f ns kb nb it sv (some l) lim true (R.head?.filter fun x => under f lim x.key) e w' := by
  obtain ⟨ics, hb, hia⟩ := h.blk
  obtain ⟨A1, n1, c1, B1, m1, d1, hi⟩ := hia.is
  have HK := Lib.hid (And.intro hkb hnb)
  have hL := Lk.of h hb
  have e1 := hb.cell hi.c1
  have e5 := hb.cell hi.c5
  have f5 := hb.froz 5
  have e2 := hb.cell hi.c2
  have HL1 := Lib.hid (hL.setIt 5 (.bool true))
  have HI1 := Lib.hid (hi.s5 true)
  have HPR := Lib.hid (And.intro hns (And.intro hP hR))
  have HA := Lib.hid (And.intro hA (And.intro hkey hneA))
  have HLT := Lib.hid hlt
  have HREL := Lib.hid (Released_calls e1)
  clear h hb hia hi hL hkb hnb hns hP hR hA hkey hneA hlt
  go_enter_defers Tryz.func170, Tryz.ntmps170
  go_upto_region 5 with (go_at_call 174; (with_reducible refine HREL.out.mono ?_); rintro e w' ⟨rfl, rfl⟩)
  generalize w.setCell ⟨it, 5, none⟩ (.bool true) = w1 at *
  have e2 := HL1.out.B.cell HI1.out.c2
  have q6 := HL1.out.cellP HL1.out.C.c6
  have g6 := HL1.out.fP 6
  go_wp2_with (fail)
  refine (rlock_open rwRLib p 2 0 _ _ _ (HL1.out.cellP HL1.out.C.c2) (HL1.out.cellP HL1.out.C.c5) q6 g6 (by rw [up1]; decide)).mono ?_
  rintro e w' ⟨rfl, rfl⟩
  simp only [up1, show 2 + 4 = 6 from rfl]
  have HL2 := Lib.hid (HL1.out.lock 1)
  clear q6 g6 HL1 e1 e5 f5
  generalize w1.setCell ⟨p, 6, none⟩ (.int .i32 1) = w2 at *
  have e2 := HL2.out.B.cell HI1.out.c2
  have e3 := HL2.out.B.cell HI1.out.c3
  have hA2 : Hid (Kd.C (Kd.int .u8) w2 A0 key.length key) := Lib.hid (HL2.out.F.C HA.out.1 HA.out.2.2)
  have hnn := fun (W : World) (a : Option Addr) (n c n' c' : Nat) => run_neq_slice_nil_any (P := Tryz.prog) W 25 5 a n c n' c' Tryz.underlying25
  rcases HL2.out.rg with ⟨_, q, _⟩ | ⟨s, Sb, Lb, rfl, hs1, hs2, hs3, hs4, hs5, hs6, hs7⟩
  · cases q
  · obtain ⟨la, lc, rfl, hlc, hlb⟩ := hs4
    have HLC := Lib.hid hlc
    have HLB := Lib.hid hlb
    clear hlc hlb
    obtain ⟨T, u, K, hVe, hnil, hmeth, hcall, hcmp⟩ := HL2.out.M.cm.make
    have HCMP := Lib.hid hcmp
    have d0 : w2.cell? ⟨p, 0, none⟩ = some (.iface T u) := by rw [← hVe]; exact HL2.out.cellP HL2.out.C.c0
    have D0 := cell_regrown d0
    have S2 := cell_regrown hs2
    have HW : ∀ d os, Hid (Below w2.heap.size w2 (grow (redrawn w2 d) os)) := fun d os => below_regrown w2 d os
    have HKW : ∀ W, Below w2.heap.size w2 W → Hid (Kd.C (Kd.int .u8) W A0 key.length key) := fun W hW => Lib.hid (Kd.C_below hA2.out hW)
    have HSW : ∀ W, Below w2.heap.size w2 W → Hid (Kd.C (Kd.int .u8) W (some la) l.length l) := fun W hW => Lib.hid (Kd.C_below HLC.out hW)
    clear hcmp d0
    have z1 : decide (f key l < 0) = true := decide_eq_true HLT.out
    have hlt := HLT.out
    have E3 := cell_regrown e3
    have E2 := cell_regrown e2
    go_upto_region 7 with (fail)
    refine wp_region_quiet_below (by kernel_rfl) (by kernel_rfl) ?_
    repeat (go_big_quiet_step (with_reducible refine Calls.regrown_of (HCMP.out _ _ _ _ _ _ _ _ _ (HKW _ (HW _ _).out).out (HSW _ (HW _ _).out).out HA.out.2.1 HLB.out)))
    refine wpQuiet_nil ?_
    intro _ hw'
    obtain ⟨⟨dq, osq⟩, hw''⟩ := hw'
    subst hw''
    have HWB := Lib.hid (below_regrown w2 dq osq)
    have HL3 := Lib.hid (HL2.out.below HWB.out)
    clear E3 E2 D0 S2 HW HKW HSW hnil hmeth hcall HCMP
    generalize grow (redrawn w2 dq) osq = w3 at *
    have hs2 : w3.cell? ⟨s, 0, none⟩ = some (.slice (some la) l.length lc) := pw_cell_below HWB.out hs2
    have e2 := HL3.out.B.cell HI1.out.c2
    have e3 := HL3.out.B.cell HI1.out.c3
    have HGF := Lib.hid (GF_calls (N := D.N) (c := D.c) (Kx := D.Kx) (ck := D.ck) (nd := D.nd) (kv := D.kv) (ca := lc) HL3.out.T HL3.out.C HL3.out.M.S (Nat.le_trans HL3.out.M.ndb HK.out.2) (Nat.le_trans HL3.out.M.kvb HK.out.1) HL3.out.M.cap HL3.out.M.cm HPR.out.1 HPR.out.2.1 HPR.out.2.2 (sorted_right HPR.out.1 HL3.out.M.sorted) HLB.out (fun x hx => (HL3.out.M.byt x hx).1) (Kd.C_below HLC.out HWB.out))
    go_upto_region 10 with (go_at_call 89; (with_reducible refine HGF.out.mono ?_); rintro e w5 ⟨ex, rfl, hex, hb5⟩; have h4 := (HL3.out.below hb5).B.cell HI1.out.c4; have g4 := (HL3.out.below hb5).B.froz 4)
    have HL4 := Lib.hid ((HL3.out.below hb5).setIt 4 (.int .i64 ((addr R.head? : Nat) : Int)))
    have HI3 := Lib.hid (HI1.out.s4 ((addr R.head? : Nat) : Int))
    have HFILL := Lib.hid (HL4.out.fillU (o := R.head?) HK.out.1 HK.out.2 HI3.out (fun x hx => by rw [HPR.out.1]; exact List.mem_append_right _ (List.mem_of_mem_head? hx)))
    rw [nxt_head (fun x hx => (HL3.out.M.S.ok x (by rw [HPR.out.1]; exact List.mem_append_right _ hx)).h1)]
    clear h4 g4 hb5 hex HGF HL3
    go_wp2_with (go_at_call 175; (with_reducible refine HFILL.out.mono ?_); rintro e w4 ⟨bb, rfl, hbb, ics4, hia4, hL4⟩)
    refine leaves_cons (f := 92) (args := #[.pointer (some ⟨p, 2, none⟩)]) (by simp) (by simp [go_sem]) ?_
    refine (runlock_deferred rwRLib p 2 1 (.int .i32 0) (.int .u32 0) .returning _ (hL4.cellP hL4.C.c2) (hL4.cellP hL4.C.c4) (hL4.cellP hL4.C.c6) (hL4.fP 6) (by rw [down1]; decide)).mono ?_
    rintro e u' w'' ⟨rfl, rfl, rfl⟩
    rw [down1]
    have hL5 := hL4.lock 0
    exact ⟨_, results_tmp rfl _ _ _, by rw [← hbb.out]; rfl, _, hL5.rest hia4 (fun x hx => by rw [HPR.out.1]; exact List.mem_append_right _ (List.mem_of_mem_head? (Option.mem_of_mem_filter hx))), hL5.F⟩

set_option maxHeartbeats 3200000 in
set_option maxRecDepth 100000 in
theorem Seek_c {w : World} {D : MemD} {base p kb nb it : Nat} {V sv : Value} {f : List Int → List Int → Int} {ns P R : List Node} {lim : Option (List Int)} {fw : Bool} {o : Option Node} {l : List Int} {key : List Int} {A0 : Option Addr} {ca : Nat} (h : MIt w D base p V f ns kb nb it sv (some l) lim fw o) (hkb : kb ≤ 1099511627776) (hnb : nb ≤ 1099511627776) (hns : ns = P ++ R) (hP : ∀ x ∈ P, f x.key key < 0) (hR : ∀ x ∈ R, 0 ≤ f x.key key) (hA : Kd.C (Kd.int .u8) w A0 key.length key) (hkey : Byt key) (hneA : 0 < key.length → ∀ a, A0 = some a → ¬ (a.block = it ∨ a.block = p)) (hlt : ¬ f key l < 0) :
    Calls Tryz.prog 170 #[.pointer (some ⟨it, 0, none⟩), .slice A0 key.length ca] w fun e w' => Moved w D base p V f ns kb nb it sv (some l) lim true (R.head?.filter fun x => under f lim x.key) e w' := by
  obtain ⟨ics, hb, hia⟩ := h.blk
  obtain ⟨A1, n1, c1, B1, m1, d1, hi⟩ := hia.is
  have HK := Lib.hid (And.intro hkb hnb)
  have hL := Lk.of h hb
  have e1 := hb.cell hi.c1
  have e5 := hb.cell hi.c5
  have f5 := hb.froz 5
  have e2 := hb.cell hi.c2
  have HL1 := Lib.hid (hL.setIt 5 (.bool true))
  have HI1 := Lib.hid (hi.s5 true)
  have HPR := Lib.hid (And.intro hns (And.intro hP hR))
  have HA := Lib.hid (And.intro hA (And.intro hkey hneA))
  have HLT := Lib.hid hlt
  have HREL := Lib.hid (Released_calls e1)
  clear h hb hia hi hL hkb hnb hns hP hR hA hkey hneA hlt
  go_enter_defers Tryz.func170, Tryz.ntmps170
  go_upto_region 5 with (go_at_call 174; (with_reducible refine HREL.out.mono ?_); rintro e w' ⟨rfl, rfl⟩)
  generalize w.setCell ⟨it, 5, none⟩ (.bool true) = w1 at *
  have e2 := HL1.out.B.cell HI1.out.c2
  have q6 := HL1.out.cellP HL1.out.C.c6
  have g6 := HL1.out.fP 6
  go_wp2_with (fail)
  refine (rlock_open rwRLib p 2 0 _ _ _ (HL1.out.cellP HL1.out.C.c2) (HL1.out.cellP HL1.out.C.c5) q6 g6 (by rw [up1]; decide)).mono ?_
  rintro e w' ⟨rfl, rfl⟩
  simp only [up1, show 2 + 4 = 6 from rfl]
  have HL2 := Lib.hid (HL1.out.lock 1)
  clear q6 g6 HL1 e1 e5 f5
  generalize w1.setCell ⟨p, 6, none⟩ (.int .i32 1) = w2 at *
  have e2 := HL2.out.B.cell HI1.out.c2
  have e3 := HL2.out.B.cell HI1.out.c3
  have hA2 : Hid (Kd.C (Kd.int .u8) w2 A0 key.length key) := Lib.hid (HL2.out.F.C HA.out.1 HA.out.2.2)
  have hnn := fun (W : World) (a : Option Addr) (n c n' c' : Nat) => run_neq_slice_nil_any (P := Tryz.prog) W 25 5 a n c n' c' Tryz.underlying25
  rcases HL2.out.rg with ⟨_, q, _⟩ | ⟨s, Sb, Lb, rfl, hs1, hs2, hs3, hs4, hs5, hs6, hs7⟩
  · cases q
  · obtain ⟨la, lc, rfl, hlc, hlb⟩ := hs4
    have HLC := Lib.hid hlc
    have HLB := Lib.hid hlb
    clear hlc hlb
    obtain ⟨T, u, K, hVe, hnil, hmeth, hcall, hcmp⟩ := HL2.out.M.cm.make
    have HCMP := Lib.hid hcmp
    have d0 : w2.cell? ⟨p, 0, none⟩ = some (.iface T u) := by rw [← hVe]; exact HL2.out.cellP HL2.out.C.c0
    have D0 := cell_regrown d0
    have S2 := cell_regrown hs2
    have HW : ∀ d os, Hid (Below w2.heap.size w2 (grow (redrawn w2 d) os)) := fun d os => below_regrown w2 d os
    have HKW : ∀ W, Below w2.heap.size w2 W → Hid (Kd.C (Kd.int .u8) W A0 key.length key) := fun W hW => Lib.hid (Kd.C_below hA2.out hW)
    have HSW : ∀ W, Below w2.heap.size w2 W → Hid (Kd.C (Kd.int .u8) W (some la) l.length l) := fun W hW => Lib.hid (Kd.C_below HLC.out hW)
    clear hcmp d0
    have z1 : decide (f key l < 0) = false := decide_eq_false (by have := HLT.out; omega)
    have hlt := HLT.out
    have E3 := cell_regrown e3
    have E2 := cell_regrown e2
    go_upto_region 7 with (fail)
    refine wp_region_quiet_below (by kernel_rfl) (by kernel_rfl) ?_
    repeat (go_big_quiet_step (with_reducible refine Calls.regrown_of (HCMP.out _ _ _ _ _ _ _ _ _ (HKW _ (HW _ _).out).out (HSW _ (HW _ _).out).out HA.out.2.1 HLB.out)))
    refine wpQuiet_nil ?_
    intro _ hw'
    obtain ⟨⟨dq, osq⟩, hw''⟩ := hw'
    subst hw''
    have HWB := Lib.hid (below_regrown w2 dq osq)
    have HL3 := Lib.hid (HL2.out.below HWB.out)
    clear E3 E2 D0 S2 HW HKW HSW hnil hmeth hcall HCMP
    generalize grow (redrawn w2 dq) osq = w3 at *
    have e2 := HL3.out.B.cell HI1.out.c2
    have e3 := HL3.out.B.cell HI1.out.c3
    have HGF := Lib.hid (GF_calls (N := D.N) (c := D.c) (Kx := D.Kx) (ck := D.ck) (nd := D.nd) (kv := D.kv) (ca := ca) HL3.out.T HL3.out.C HL3.out.M.S (Nat.le_trans HL3.out.M.ndb HK.out.2) (Nat.le_trans HL3.out.M.kvb HK.out.1) HL3.out.M.cap HL3.out.M.cm HPR.out.1 HPR.out.2.1 HPR.out.2.2 (sorted_right HPR.out.1 HL3.out.M.sorted) HA.out.2.1 (fun x hx => (HL3.out.M.byt x hx).1) (Kd.C_below hA2.out HWB.out))
    go_upto_region 10 with (go_at_call 89; (with_reducible refine HGF.out.mono ?_); rintro e w5 ⟨ex, rfl, hex, hb5⟩; have h4 := (HL3.out.below hb5).B.cell HI1.out.c4; have g4 := (HL3.out.below hb5).B.froz 4)
    have HL4 := Lib.hid ((HL3.out.below hb5).setIt 4 (.int .i64 ((addr R.head? : Nat) : Int)))
    have HI3 := Lib.hid (HI1.out.s4 ((addr R.head? : Nat) : Int))
    have HFILL := Lib.hid (HL4.out.fillU (o := R.head?) HK.out.1 HK.out.2 HI3.out (fun x hx => by rw [HPR.out.1]; exact List.mem_append_right _ (List.mem_of_mem_head? hx)))
    rw [nxt_head (fun x hx => (HL3.out.M.S.ok x (by rw [HPR.out.1]; exact List.mem_append_right _ hx)).h1)]
    clear h4 g4 hb5 hex HGF HL3
    go_wp2_with (go_at_call 175; (with_reducible refine HFILL.out.mono ?_); rintro e w4 ⟨bb, rfl, hbb, ics4, hia4, hL4⟩)
    refine leaves_cons (f := 92) (args := #[.pointer (some ⟨p, 2, none⟩)]) (by simp) (by simp [go_sem]) ?_
    refine (runlock_deferred rwRLib p 2 1 (.int .i32 0) (.int .u32 0) .returning _ (hL4.cellP hL4.C.c2) (hL4.cellP hL4.C.c4) (hL4.cellP hL4.C.c6) (hL4.fP 6) (by rw [down1]; decide)).mono ?_
    rintro e u' w'' ⟨rfl, rfl, rfl⟩
    rw [down1]
    have hL5 := hL4.lock 0
    exact ⟨_, results_tmp rfl _ _ _, by rw [← hbb.out]; rfl, _, hL5.rest hia4 (fun x hx => by rw [HPR.out.1]; exact List.mem_append_right _ (List.mem_of_mem_head? (Option.mem_of_mem_filter hx))), hL5.F⟩

end Go.Proofs.YtdkkkikcigjlhaaGreatDoor.Md
