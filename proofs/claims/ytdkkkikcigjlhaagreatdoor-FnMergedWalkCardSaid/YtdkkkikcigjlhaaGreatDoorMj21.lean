/- The memory table's iterator: First and Last. The memory table's iterator: Last. -/
import Derived.Test.YtdkkkikcigjlhaaGreatDoorMj20
set_option linter.unusedVariables false
set_option linter.unusedSimpArgs false
namespace Go.Proofs.YtdkkkikcigjlhaaGreatDoor.Md
open Go.RowKit Go.Proofs.YtdkkkikcigjlhaaGreatDoor.Con Go.Proofs.YtdkkkikcigjlhaaGreatDoor.Run Go.Proofs.YtdkkkikcigjlhaaGreatDoorW.PrintWords Go.Proofs.YtdkkkikcigjlhaaGreatDoorW.PrintMore Go.Proofs.YtdkkkikcigjlhaaGreatDoor.Cmp Go.Sort Go.RwLone

def Moved (w : World) (D : MemD) (base p : Nat) (V : Value) (f : List Int → List Int → Int) (ns : List Node) (kb nb it : Nat) (sv : Value) (st lim : Option (List Int)) (fw : Bool) (o : Option Node) (e : Ending) (w' : World) : Prop :=
  e = .returned (.bool o.isSome) ∧ ∃ cs, MIt w' { D with cs := cs } base p V f ns kb nb it sv st lim fw o ∧ Fr w w' (fun k => k = it ∨ k = p)

theorem Option.mem_of_mem_filter {α : Type} {p : α → Bool} {o : Option α} {x : α} (h : o.filter p = some x) : o = some x := by
  cases o with
  | none => cases h
  | some y =>
    rw [Option.filter_some] at h
    split at h
    · exact h
    · cases h

theorem sorted_right {f : List Int → List Int → Int} {ns P R : List Node} (e : ns = P ++ R) (h : Sorted f ns) : Sorted f R := by
  rw [e] at h
  exact (List.pairwise_append.1 h).2.1

theorem nxt_head {R : List Node} (h : ∀ x ∈ R, 1 ≤ x.h) : nxt 0 R = addr R.head? := by
  cases R with
  | nil => rfl
  | cons x r =>
    have := h x List.mem_cons_self
    rw [nxt, if_pos (by omega)]
    rfl

theorem head_link {nd kv : List Int} {mh : Nat} {ns : List Node} (h : Skip nd kv mh ns) : G nd 4 = ((addr ns.head? : Nat) : Int) := by
  have := h.links [] ns rfl 0 (by omega)
  cases ns with
  | nil => exact this
  | cons x r =>
    have h1 := (h.ok x List.mem_cons_self).h1
    rw [nxt, if_pos (by omega)] at this
    exact this

set_option maxHeartbeats 3200000 in
set_option maxRecDepth 100000 in
theorem First_all {w : World} {D : MemD} {base p kb nb it : Nat} {V sv : Value} {f : List Int → List Int → Int} {ns : List Node} {lim : Option (List Int)} {fw : Bool} {o : Option Node} (h : MIt w D base p V f ns kb nb it sv none lim fw o) (hkb : kb ≤ 1099511627776) (hnb : nb ≤ 1099511627776) :
    Calls Tryz.prog 164 #[.pointer (some ⟨it, 0, none⟩)] w fun e w' => Moved w D base p V f ns kb nb it sv none lim true (ns.head?.filter fun x => under f lim x.key) e w' := by
  obtain ⟨ics, hb, hia⟩ := h.blk
  obtain ⟨A1, n1, c1, B1, m1, d1, hi⟩ := hia.is
  have HK := Lib.hid (And.intro hkb hnb)
  have hL := Lk.of h hb
  have e1 := hb.cell hi.c1
  have e5 := hb.cell hi.c5
  have f5 := hb.froz 5
  have e2 := hb.cell hi.c2
  have HL1 := Lib.hid (hL.setIt 5 (.bool true))
  have HI1 := Lib.hid (hi.s5 true)
  have HREL := Lib.hid (Released_calls e1)
  clear h hb hia hi hL hkb hnb
  go_enter_defers Tryz.func164, Tryz.ntmps164
  go_upto_region 5 with (go_at_call 174; (with_reducible refine HREL.out.mono ?_); rintro e w' ⟨rfl, rfl⟩)
  generalize w.setCell ⟨it, 5, none⟩ (.bool true) = w1 at *
  have e2 := HL1.out.B.cell HI1.out.c2
  have q6 := HL1.out.cellP HL1.out.C.c6
  have g6 := HL1.out.fP 6
  go_wp2_with (fail)
  refine (rlock_open rwRLib p 2 0 _ _ _ (HL1.out.cellP HL1.out.C.c2) (HL1.out.cellP HL1.out.C.c5) q6 g6 (by rw [up1]; decide)).mono ?_
  rintro e w' ⟨rfl, rfl⟩
  simp only [up1, show 2 + 4 = 6 from rfl]
  have HL2 := Lib.hid (HL1.out.lock 1)
  clear q6 g6 HL1 e1 e5 f5
  generalize w1.setCell ⟨p, 6, none⟩ (.int .i32 1) = w2 at *
  have e2 := HL2.out.B.cell HI1.out.c2
  have e3 := HL2.out.B.cell HI1.out.c3
  have hnn := fun (W : World) (a : Option Addr) (n c n' c' : Nat) => run_neq_slice_nil_any (P := Tryz.prog) W 25 5 a n c n' c' Tryz.underlying25
  rcases HL2.out.rg with ⟨rfl, _, _⟩ | ⟨s, Sb, Lb, rfl, hs1, hs2, hs3, hs4, hs5, hs6, hs7⟩
  · go_upto_region 9 with (fail)
    obtain ⟨ad, hN, hx4⟩ := HL2.out.T.at' (i := 4) (by have := HL2.out.M.S.len; omega)
    rw [head_link HL2.out.M.S] at hx4
    have d9 : w2.cell? ⟨p, 9, none⟩ = some (.slice (some ad) D.nd.length D.c) := by
      have h9 := HL2.out.cellP HL2.out.C.c9
      rw [MemD.vn, hN] at h9
      exact h9
    have hlen : (4 : Int) < (D.nd.length : Int) := by have := HL2.out.M.S.len; omega
    have e4 := HL2.out.B.cell HI1.out.c4
    have f4 := HL2.out.B.froz 4
    have HL3 := Lib.hid (HL2.out.setIt 4 (.int .i64 ((addr ns.head? : Nat) : Int)))
    have HI3 := Lib.hid (HI1.out.s4 ((addr ns.head? : Nat) : Int))
    have HFILL := Lib.hid (HL3.out.fillU (o := ns.head?) HK.out.1 HK.out.2 HI3.out (fun x hx => List.mem_of_mem_head? hx))
    clear HL2 HI1 hN
    go_wp2_with (go_at_call 175; (with_reducible refine HFILL.out.mono ?_); rintro e w4 ⟨bb, rfl, hbb, ics4, hia4, hL4⟩)
    refine leaves_cons (f := 92) (args := #[.pointer (some ⟨p, 2, none⟩)]) (by simp) (by simp [go_sem]) ?_
    refine (runlock_deferred rwRLib p 2 1 (.int .i32 0) (.int .u32 0) .returning _ (hL4.cellP hL4.C.c2) (hL4.cellP hL4.C.c4) (hL4.cellP hL4.C.c6) (hL4.fP 6) (by rw [down1]; decide)).mono ?_
    rintro e u' w'' ⟨rfl, rfl, rfl⟩
    rw [down1]
    have hL5 := hL4.lock 0
    exact ⟨_, results_tmp rfl _ _ _, by rw [← hbb.out]; rfl, _, hL5.rest hia4 (fun x hx => List.mem_of_mem_head? (Option.mem_of_mem_filter hx)), hL5.F⟩
  · obtain rfl : Sb = .slice none 0 0 := hs4
    go_upto_region 9 with (fail)
    obtain ⟨ad, hN, hx4⟩ := HL2.out.T.at' (i := 4) (by have := HL2.out.M.S.len; omega)
    rw [head_link HL2.out.M.S] at hx4
    have d9 : w2.cell? ⟨p, 9, none⟩ = some (.slice (some ad) D.nd.length D.c) := by
      have h9 := HL2.out.cellP HL2.out.C.c9
      rw [MemD.vn, hN] at h9
      exact h9
    have hlen : (4 : Int) < (D.nd.length : Int) := by have := HL2.out.M.S.len; omega
    have e4 := HL2.out.B.cell HI1.out.c4
    have f4 := HL2.out.B.froz 4
    have HL3 := Lib.hid (HL2.out.setIt 4 (.int .i64 ((addr ns.head? : Nat) : Int)))
    have HI3 := Lib.hid (HI1.out.s4 ((addr ns.head? : Nat) : Int))
    have HFILL := Lib.hid (HL3.out.fillU (o := ns.head?) HK.out.1 HK.out.2 HI3.out (fun x hx => List.mem_of_mem_head? hx))
    clear HL2 HI1 hN
    go_wp2_with (go_at_call 175; (with_reducible refine HFILL.out.mono ?_); rintro e w4 ⟨bb, rfl, hbb, ics4, hia4, hL4⟩)
    refine leaves_cons (f := 92) (args := #[.pointer (some ⟨p, 2, none⟩)]) (by simp) (by simp [go_sem]) ?_
    refine (runlock_deferred rwRLib p 2 1 (.int .i32 0) (.int .u32 0) .returning _ (hL4.cellP hL4.C.c2) (hL4.cellP hL4.C.c4) (hL4.cellP hL4.C.c6) (hL4.fP 6) (by rw [down1]; decide)).mono ?_
    rintro e u' w'' ⟨rfl, rfl, rfl⟩
    rw [down1]
    have hL5 := hL4.lock 0
    exact ⟨_, results_tmp rfl _ _ _, by rw [← hbb.out]; rfl, _, hL5.rest hia4 (fun x hx => List.mem_of_mem_head? (Option.mem_of_mem_filter hx)), hL5.F⟩

set_option maxHeartbeats 3200000 in
set_option maxRecDepth 100000 in
theorem First_from {w : World} {D : MemD} {base p kb nb it : Nat} {V sv : Value} {f : List Int → List Int → Int} {ns P R : List Node} {lim : Option (List Int)} {fw : Bool} {o : Option Node} {l : List Int} (h : MIt w D base p V f ns kb nb it sv (some l) lim fw o) (hkb : kb ≤ 1099511627776) (hnb : nb ≤ 1099511627776) (hns : ns = P ++ R) (hP : ∀ x ∈ P, f x.key l < 0) (hR : ∀ x ∈ R, 0 ≤ f x.key l) :
    Calls Tryz.prog 164 #[.pointer (some ⟨it, 0, none⟩)] w fun e w' => Moved w D base p V f ns kb nb it sv (some l) lim true (R.head?.filter fun x => under f lim x.key) e w' := by
  obtain ⟨ics, hb, hia⟩ := h.blk
  obtain ⟨A1, n1, c1, B1, m1, d1, hi⟩ := hia.is
  have HK := Lib.hid (And.intro hkb hnb)
  have hL := Lk.of h hb
  have e1 := hb.cell hi.c1
  have e5 := hb.cell hi.c5
  have f5 := hb.froz 5
  have e2 := hb.cell hi.c2
  have HL1 := Lib.hid (hL.setIt 5 (.bool true))
  have HI1 := Lib.hid (hi.s5 true)
  have HPR := Lib.hid (And.intro hns (And.intro hP hR))
  have HREL := Lib.hid (Released_calls e1)
  clear h hb hia hi hL hkb hnb hns hP hR
  go_enter_defers Tryz.func164, Tryz.ntmps164
  go_upto_region 5 with (go_at_call 174; (with_reducible refine HREL.out.mono ?_); rintro e w' ⟨rfl, rfl⟩)
  generalize w.setCell ⟨it, 5, none⟩ (.bool true) = w1 at *
  have e2 := HL1.out.B.cell HI1.out.c2
  have q6 := HL1.out.cellP HL1.out.C.c6
  have g6 := HL1.out.fP 6
  go_wp2_with (fail)
  refine (rlock_open rwRLib p 2 0 _ _ _ (HL1.out.cellP HL1.out.C.c2) (HL1.out.cellP HL1.out.C.c5) q6 g6 (by rw [up1]; decide)).mono ?_
  rintro e w' ⟨rfl, rfl⟩
  simp only [up1, show 2 + 4 = 6 from rfl]
  have HL2 := Lib.hid (HL1.out.lock 1)
  clear q6 g6 HL1 e1 e5 f5
  generalize w1.setCell ⟨p, 6, none⟩ (.int .i32 1) = w2 at *
  have e2 := HL2.out.B.cell HI1.out.c2
  have e3 := HL2.out.B.cell HI1.out.c3
  have hnn := fun (W : World) (a : Option Addr) (n c n' c' : Nat) => run_neq_slice_nil_any (P := Tryz.prog) W 25 5 a n c n' c' Tryz.underlying25
  rcases HL2.out.rg with ⟨_, q, _⟩ | ⟨s, Sb, Lb, rfl, hs1, hs2, hs3, hs4, hs5, hs6, hs7⟩
  · cases q
  · obtain ⟨la, lc, rfl, hlc, hlb⟩ := hs4
    have HLC := Lib.hid hlc
    have HLB := Lib.hid hlb
    clear hlc hlb hs1 hs3 hs5 hs6 hs7
    go_upto_region 8 with (fail)
    have HD := Lib.hid (HL2.out.below (below_drew (Below.refl _ _)))
    have HGF := Lib.hid (GF_calls (N := D.N) (c := D.c) (Kx := D.Kx) (ck := D.ck) (nd := D.nd) (kv := D.kv) (ca := lc) HD.out.T HD.out.C HD.out.M.S (Nat.le_trans HD.out.M.ndb HK.out.2) (Nat.le_trans HD.out.M.kvb HK.out.1) HD.out.M.cap HD.out.M.cm HPR.out.1 HPR.out.2.1 HPR.out.2.2 (sorted_right HPR.out.1 HD.out.M.sorted) HLB.out (fun x hx => (HD.out.M.byt x hx).1) (Kd.C_below HLC.out (below_drew (Below.refl _ _))))
    refine wp_region_noPanic ?_
    go_region_law
      (go_simp; go_at_call 89; (with_reducible refine HGF.out.mono ?_); rintro e w3 ⟨ex, rfl, hex, hb3⟩; have h4 := (HD.out.below hb3).B.cell HI1.out.c4; have g4 := (HD.out.below hb3).B.froz 4)
    all_goals refine NoPanic.normal ?_
    all_goals
      have HL3 := Lib.hid ((HD.out.below hb3).setIt 4 (.int .i64 ((addr R.head? : Nat) : Int)))
      have HI3 := Lib.hid (HI1.out.s4 ((addr R.head? : Nat) : Int))
      have HFILL := Lib.hid (HL3.out.fillU (o := R.head?) HK.out.1 HK.out.2 HI3.out (fun x hx => by rw [HPR.out.1]; exact List.mem_append_right _ (List.mem_of_mem_head? hx)))
      rw [nxt_head (fun x hx => (HL2.out.M.S.ok x (by rw [HPR.out.1]; exact List.mem_append_right _ hx)).h1)]
      clear h4 g4 hb3 hex HGF HD
      go_wp2_with (go_at_call 175; (with_reducible refine HFILL.out.mono ?_); rintro e w4 ⟨bb, rfl, hbb, ics4, hia4, hL4⟩)
      refine leaves_cons (f := 92) (args := #[.pointer (some ⟨p, 2, none⟩)]) (by simp) (by simp [go_sem]) ?_
      refine (runlock_deferred rwRLib p 2 1 (.int .i32 0) (.int .u32 0) .returning _ (hL4.cellP hL4.C.c2) (hL4.cellP hL4.C.c4) (hL4.cellP hL4.C.c6) (hL4.fP 6) (by rw [down1]; decide)).mono ?_
      rintro e u' w'' ⟨rfl, rfl, rfl⟩
      rw [down1]
      have hL5 := hL4.lock 0
      exact ⟨_, results_tmp rfl _ _ _, by rw [← hbb.out]; rfl, _, hL5.rest hia4 (fun x hx => by rw [HPR.out.1]; exact List.mem_append_right _ (List.mem_of_mem_head? (Option.mem_of_mem_filter hx))), hL5.F⟩

theorem prv_last {P : List Node} (h : ∀ x ∈ P, 1 ≤ x.h) : prv 0 P = addr P.getLast? := by
  have := nxt_head (R := P.reverse) (fun x hx => h x (List.mem_reverse.1 hx))
  rw [List.head?_reverse] at this
  exact this

set_option maxHeartbeats 3200000 in
set_option maxRecDepth 100000 in
theorem Last_all {w : World} {D : MemD} {base p kb nb it : Nat} {V sv : Value} {f : List Int → List Int → Int} {ns : List Node} {st : Option (List Int)} {fw : Bool} {o : Option Node} (h : MIt w D base p V f ns kb nb it sv st none fw o) (hkb : kb ≤ 1099511627776) (hnb : nb ≤ 1099511627776) :
    Calls Tryz.prog 166 #[.pointer (some ⟨it, 0, none⟩)] w fun e w' => Moved w D base p V f ns kb nb it sv st none false (ns.getLast?.filter fun x => over f st x.key) e w' := by
  obtain ⟨ics, hb, hia⟩ := h.blk
  obtain ⟨A1, n1, c1, B1, m1, d1, hi⟩ := hia.is
  have HK := Lib.hid (And.intro hkb hnb)
  have hL := Lk.of h hb
  have e1 := hb.cell hi.c1
  have e5 := hb.cell hi.c5
  have f5 := hb.froz 5
  have e2 := hb.cell hi.c2
  have HL1 := Lib.hid (hL.setIt 5 (.bool false))
  have HI1 := Lib.hid (hi.s5 false)
  have HREL := Lib.hid (Released_calls e1)
  clear h hb hia hi hL hkb hnb
  go_enter_defers Tryz.func166, Tryz.ntmps166
  go_upto_region 5 with (go_at_call 174; (with_reducible refine HREL.out.mono ?_); rintro e w' ⟨rfl, rfl⟩)
  generalize w.setCell ⟨it, 5, none⟩ (.bool false) = w1 at *
  have e2 := HL1.out.B.cell HI1.out.c2
  have q6 := HL1.out.cellP HL1.out.C.c6
  have g6 := HL1.out.fP 6
  go_wp2_with (fail)
  refine (rlock_open rwRLib p 2 0 _ _ _ (HL1.out.cellP HL1.out.C.c2) (HL1.out.cellP HL1.out.C.c5) q6 g6 (by rw [up1]; decide)).mono ?_
  rintro e w' ⟨rfl, rfl⟩
  simp only [up1, show 2 + 4 = 6 from rfl]
  have HL2 := Lib.hid (HL1.out.lock 1)
  clear q6 g6 HL1 e1 e5 f5
  generalize w1.setCell ⟨p, 6, none⟩ (.int .i32 1) = w2 at *
  have e2 := HL2.out.B.cell HI1.out.c2
  have e3 := HL2.out.B.cell HI1.out.c3
  have hnn := fun (W : World) (a : Option Addr) (n c n' c' : Nat) => run_neq_slice_nil_any (P := Tryz.prog) W 25 5 a n c n' c' Tryz.underlying25
  rcases HL2.out.rg with ⟨rfl, _, _⟩ | ⟨s, Sb, Lb, rfl, hs1, hs2, hs3, hs4, hs5, hs6, hs7⟩
  · have e4 := HL2.out.B.cell HI1.out.c4
    have f4 := HL2.out.B.froz 4
    have HLA := Lib.hid (Last_calls (N := D.N) (c := D.c) (nd := D.nd) HL2.out.T HL2.out.C HL2.out.M.S (Nat.le_trans HL2.out.M.ndb HK.out.2))
    have HL3 := Lib.hid (HL2.out.setIt 4 (.int .i64 ((addr ns.getLast? : Nat) : Int)))
    have HI3 := Lib.hid (HI1.out.s4 ((addr ns.getLast? : Nat) : Int))
    have HPL := Lib.hid (prv_last (P := ns) (fun x hx => (HL2.out.M.S.ok x hx).h1))
    have HFILL := Lib.hid (HL3.out.fillO (o := ns.getLast?) HK.out.1 HK.out.2 HI3.out (fun x hx => List.mem_of_getLast? hx))
    clear HL2 HI1
    go_upto_region 10 with (go_at_call 177; (with_reducible refine HLA.out.mono ?_); rintro e w3 ⟨rfl, rfl⟩; rw [HPL.out])
    go_wp2_with (go_at_call 175; (with_reducible refine HFILL.out.mono ?_); rintro e w4 ⟨bb, rfl, hbb, ics4, hia4, hL4⟩)
    refine leaves_cons (f := 92) (args := #[.pointer (some ⟨p, 2, none⟩)]) (by simp) (by simp [go_sem]) ?_
    refine (runlock_deferred rwRLib p 2 1 (.int .i32 0) (.int .u32 0) .returning _ (hL4.cellP hL4.C.c2) (hL4.cellP hL4.C.c4) (hL4.cellP hL4.C.c6) (hL4.fP 6) (by rw [down1]; decide)).mono ?_
    rintro e u' w'' ⟨rfl, rfl, rfl⟩
    rw [down1]
    have hL5 := hL4.lock 0
    exact ⟨_, results_tmp rfl _ _ _, by rw [← hbb.out]; rfl, _, hL5.rest hia4 (fun x hx => List.mem_of_getLast? (Option.mem_of_mem_filter hx)), hL5.F⟩
  · obtain rfl : Lb = .slice none 0 0 := hs5
    have e4 := HL2.out.B.cell HI1.out.c4
    have f4 := HL2.out.B.froz 4
    have HLA := Lib.hid (Last_calls (N := D.N) (c := D.c) (nd := D.nd) HL2.out.T HL2.out.C HL2.out.M.S (Nat.le_trans HL2.out.M.ndb HK.out.2))
    have HL3 := Lib.hid (HL2.out.setIt 4 (.int .i64 ((addr ns.getLast? : Nat) : Int)))
    have HI3 := Lib.hid (HI1.out.s4 ((addr ns.getLast? : Nat) : Int))
    have HPL := Lib.hid (prv_last (P := ns) (fun x hx => (HL2.out.M.S.ok x hx).h1))
    have HFILL := Lib.hid (HL3.out.fillO (o := ns.getLast?) HK.out.1 HK.out.2 HI3.out (fun x hx => List.mem_of_getLast? hx))
    clear HL2 HI1
    go_upto_region 10 with (go_at_call 177; (with_reducible refine HLA.out.mono ?_); rintro e w3 ⟨rfl, rfl⟩; rw [HPL.out])
    go_wp2_with (go_at_call 175; (with_reducible refine HFILL.out.mono ?_); rintro e w4 ⟨bb, rfl, hbb, ics4, hia4, hL4⟩)
    refine leaves_cons (f := 92) (args := #[.pointer (some ⟨p, 2, none⟩)]) (by simp) (by simp [go_sem]) ?_
    refine (runlock_deferred rwRLib p 2 1 (.int .i32 0) (.int .u32 0) .returning _ (hL4.cellP hL4.C.c2) (hL4.cellP hL4.C.c4) (hL4.cellP hL4.C.c6) (hL4.fP 6) (by rw [down1]; decide)).mono ?_
    rintro e u' w'' ⟨rfl, rfl, rfl⟩
    rw [down1]
    have hL5 := hL4.lock 0
    exact ⟨_, results_tmp rfl _ _ _, by rw [← hbb.out]; rfl, _, hL5.rest hia4 (fun x hx => List.mem_of_getLast? (Option.mem_of_mem_filter hx)), hL5.F⟩

set_option maxHeartbeats 3200000 in
set_option maxRecDepth 100000 in
theorem Last_to {w : World} {D : MemD} {base p kb nb it : Nat} {V sv : Value} {f : List Int → List Int → Int} {ns P R : List Node} {st : Option (List Int)} {fw : Bool} {o : Option Node} {l : List Int} (h : MIt w D base p V f ns kb nb it sv st (some l) fw o) (hkb : kb ≤ 1099511627776) (hnb : nb ≤ 1099511627776) (hns : ns = P ++ R) (hP : ∀ x ∈ P, f x.key l < 0) (hR : ∀ x ∈ R, 0 ≤ f x.key l) :
    Calls Tryz.prog 166 #[.pointer (some ⟨it, 0, none⟩)] w fun e w' => Moved w D base p V f ns kb nb it sv st (some l) false (P.getLast?.filter fun x => over f st x.key) e w' := by
  obtain ⟨ics, hb, hia⟩ := h.blk
  obtain ⟨A1, n1, c1, B1, m1, d1, hi⟩ := hia.is
  have HK := Lib.hid (And.intro hkb hnb)
  have hL := Lk.of h hb
  have e1 := hb.cell hi.c1
  have e5 := hb.cell hi.c5
  have f5 := hb.froz 5
  have e2 := hb.cell hi.c2
  have HL1 := Lib.hid (hL.setIt 5 (.bool false))
  have HI1 := Lib.hid (hi.s5 false)
  have HPR := Lib.hid (And.intro hns (And.intro hP hR))
  have HREL := Lib.hid (Released_calls e1)
  clear h hb hia hi hL hkb hnb hns hP hR
  go_enter_defers Tryz.func166, Tryz.ntmps166
  go_upto_region 5 with (go_at_call 174; (with_reducible refine HREL.out.mono ?_); rintro e w' ⟨rfl, rfl⟩)
  generalize w.setCell ⟨it, 5, none⟩ (.bool false) = w1 at *
  have e2 := HL1.out.B.cell HI1.out.c2
  have q6 := HL1.out.cellP HL1.out.C.c6
  have g6 := HL1.out.fP 6
  go_wp2_with (fail)
  refine (rlock_open rwRLib p 2 0 _ _ _ (HL1.out.cellP HL1.out.C.c2) (HL1.out.cellP HL1.out.C.c5) q6 g6 (by rw [up1]; decide)).mono ?_
  rintro e w' ⟨rfl, rfl⟩
  simp only [up1, show 2 + 4 = 6 from rfl]
  have HL2 := Lib.hid (HL1.out.lock 1)
  clear q6 g6 HL1 e1 e5 f5
  generalize w1.setCell ⟨p, 6, none⟩ (.int .i32 1) = w2 at *
  have e2 := HL2.out.B.cell HI1.out.c2
  have e3 := HL2.out.B.cell HI1.out.c3
  have hnn := fun (W : World) (a : Option Addr) (n c n' c' : Nat) => run_neq_slice_nil_any (P := Tryz.prog) W 25 5 a n c n' c' Tryz.underlying25
  rcases HL2.out.rg with ⟨_, _, q⟩ | ⟨s, Sb, Lb, rfl, hs1, hs2, hs3, hs4, hs5, hs6, hs7⟩
  · cases q
  · obtain ⟨la, lc, rfl, hlc, hlb⟩ := hs5
    have HLC := Lib.hid hlc
    have HLB := Lib.hid hlb
    clear hlc hlb hs1 hs2 hs4 hs6 hs7
    go_upto_region 8 with (fail)
    have HD := Lib.hid (HL2.out.below (below_drew (Below.refl _ _)))
    have HGF := Lib.hid (LT_calls (N := D.N) (c := D.c) (Kx := D.Kx) (ck := D.ck) (nd := D.nd) (kv := D.kv) (ca := lc) HD.out.T HD.out.C HD.out.M.S (Nat.le_trans HD.out.M.ndb HK.out.2) (Nat.le_trans HD.out.M.kvb HK.out.1) HD.out.M.cap HD.out.M.cm HPR.out.1 HPR.out.2.1 HPR.out.2.2 (sorted_right HPR.out.1 HD.out.M.sorted) HLB.out (fun x hx => (HD.out.M.byt x hx).1) (Kd.C_below HLC.out (below_drew (Below.refl _ _))))
    refine wp_region_noPanic ?_
    go_region_law
      (go_simp; go_at_call 176; (with_reducible refine HGF.out.mono ?_); rintro e w3 ⟨rfl, hb3⟩; have h4 := (HD.out.below hb3).B.cell HI1.out.c4; have g4 := (HD.out.below hb3).B.froz 4)
    all_goals refine NoPanic.normal ?_
    all_goals
      have HL3 := Lib.hid ((HD.out.below hb3).setIt 4 (.int .i64 ((addr P.getLast? : Nat) : Int)))
      have HI3 := Lib.hid (HI1.out.s4 ((addr P.getLast? : Nat) : Int))
      have HFILL := Lib.hid (HL3.out.fillO (o := P.getLast?) HK.out.1 HK.out.2 HI3.out (fun x hx => by rw [HPR.out.1]; exact List.mem_append_left _ (List.mem_of_getLast? hx)))
      rw [prv_last (fun x hx => (HL2.out.M.S.ok x (by rw [HPR.out.1]; exact List.mem_append_left _ hx)).h1)]
      clear h4 g4 hb3 HGF HD
      go_wp2_with (go_at_call 175; (with_reducible refine HFILL.out.mono ?_); rintro e w4 ⟨bb, rfl, hbb, ics4, hia4, hL4⟩)
      refine leaves_cons (f := 92) (args := #[.pointer (some ⟨p, 2, none⟩)]) (by simp) (by simp [go_sem]) ?_
      refine (runlock_deferred rwRLib p 2 1 (.int .i32 0) (.int .u32 0) .returning _ (hL4.cellP hL4.C.c2) (hL4.cellP hL4.C.c4) (hL4.cellP hL4.C.c6) (hL4.fP 6) (by rw [down1]; decide)).mono ?_
      rintro e u' w'' ⟨rfl, rfl, rfl⟩
      rw [down1]
      have hL5 := hL4.lock 0
      exact ⟨_, results_tmp rfl _ _ _, by rw [← hbb.out]; rfl, _, hL5.rest hia4 (fun x hx => by rw [HPR.out.1]; exact List.mem_append_left _ (List.mem_of_getLast? (Option.mem_of_mem_filter hx))), hL5.F⟩

end Go.Proofs.YtdkkkikcigjlhaaGreatDoor.Md
