/- The memory table's iterator at rest, and under its lock. The memory table's iterator: First and Last. The memory table's iterator: Last. The memory table's iterator: Next and Prev. -/
import Derived.Test.YtdkkkikcigjlhaaGreatDoorMm09
set_option linter.unusedVariables false
set_option linter.unusedSimpArgs false
namespace Go.Proofs.YtdkkkikcigjlhaaGreatDoor.Md
open Go.RowKit Go.Proofs.YtdkkkikcigjlhaaGreatDoor.Con Go.Proofs.YtdkkkikcigjlhaaGreatDoor.Run Go.Proofs.YtdkkkikcigjlhaaGreatDoorW.PrintWords Go.Proofs.YtdkkkikcigjlhaaGreatDoorW.PrintMore Go.Proofs.YtdkkkikcigjlhaaGreatDoor.Cmp Go.Sort Go.RwLone

set_option maxHeartbeats 1600000 in
theorem Released_calls {w : World} {it : Nat} (h : w.cell? ⟨it, 1, none⟩ = some (.bool false)) :
    Calls Tryz.prog 174 #[.pointer (some ⟨it, 0, none⟩)] w fun e w' => e = .returned (.bool false) ∧ w = w' := by
  go_enter Tryz.func174, Tryz.ntmps174
  go_wp2
  go_ret
  exact ⟨rfl, rfl⟩

def MemD.apart (D : MemD) (p it k : Nat) : Prop := k ≠ it ∧ ¬ D.own p k

structure MIt (w : World) (D : MemD) (base p : Nat) (V : Value) (f : List Int → List Int → Int) (ns : List Node) (kb nb it : Nat) (sv : Value) (st lim : Option (List Int)) (fw : Bool) (o : Option Node) : Prop where
  M : Mem D w base p V f ns kb nb
  blk : ∃ ics, Blk w it ics ∧ ItAt D.kv D.Kx ics p sv fw o
  on : ∀ x, o = some x → x ∈ ns
  rg : Rg2 w (D.apart p it) sv st lim
  ne : ¬ D.own p it

structure Lk (w W : World) (D : MemD) (base p : Nat) (V : Value) (f : List Int → List Int → Int) (ns : List Node) (kb nb it : Nat) (sv : Value) (st lim : Option (List Int)) (cs ics : Array Value) (l4 : Int) : Prop where
  T : Tab W base p cs D.vk D.vn D.kv D.nd
  C : Cs cs V D.r 0 l4 D.vk D.vn D.q (D.mh : Int) (ns.length : Int) (weigh ns : Int)
  Rn : Rnd W D.r D.gr
  B : Blk W it ics
  rg : Rg2 W (D.apart p it) sv st lim
  F : Fr w W (fun k => k = it ∨ k = p)
  M : Mem D w base p V f ns kb nb
  ne : ¬ D.own p it

section
variable {w W W1 : World} {D : MemD} {base p kb nb it : Nat} {V sv : Value} {f : List Int → List Int → Int} {ns : List Node} {st lim : Option (List Int)} {cs ics : Array Value} {l4 : Int} {fw : Bool} {o : Option Node}

theorem Lk.of (h : MIt w D base p V f ns kb nb it sv st lim fw o) (hb : Blk w it ics) : Lk w w D base p V f ns kb nb it sv st lim D.cs ics 0 := ⟨h.M.T, h.M.C, h.M.R, hb, h.rg, Fr.refl _ _, h.M, h.ne⟩

theorem Lk.below (h : Lk w W D base p V f ns kb nb it sv st lim cs ics l4) (hb : Below W.heap.size W W1) : Lk w W1 D base p V f ns kb nb it sv st lim cs ics l4 :=
  ⟨h.T.below hb, h.C, h.Rn.kept (row := none) (grown_of_below hb none) (by simp) (by simp), h.B.below hb, h.rg.keep (fun k _ hk => hb.block k hk), h.F.then_ (Fr.of_below hb (fun _ => False)) (fun k hk => hk.elim), h.M, h.ne⟩

theorem Lk.fr {ics' : Array Value} (h : Lk w W D base p V f ns kb nb it sv st lim cs ics l4) (hf : Fr W W1 (fun k => k = it)) (hb : Blk W1 it ics') : Lk w W1 D base p V f ns kb nb it sv st lim cs ics' l4 := by
  have hne := h.ne
  have hk : ∀ k, D.own p k → k < W.heap.size → W1.heap[k]? = W.heap[k]? := fun k ho hlt => hf.block k hlt (fun e => hne (e ▸ ho))
  obtain ⟨a, ⟨hi, lo, b⟩, c⟩ := h.Rn
  exact ⟨h.T.fr hf (fun e => hne (.inr (.inl e))) (fun e => hne (.inr (.inr (.inr (.inl e))))) (fun e => hne (.inr (.inr (.inr (.inr e))))), h.C, ⟨(hk _ (.inl rfl) (blk_lt a)).trans a, ⟨hi, lo, (hk _ (.inr (.inr (.inl rfl))) (blk_lt b)).trans b⟩, c⟩, hb,
    h.rg.keep (fun k hk hlt => hf.block k hlt hk.1), h.F.then_ hf (fun k hk => .inl (.inl hk)), h.M, h.ne⟩

theorem Lk.setIt (h : Lk w W D base p V f ns kb nb it sv st lim cs ics l4) (i : Nat) (u : Value) : Lk w (W.setCell ⟨it, i, none⟩ u) D base p V f ns kb nb it sv st lim cs (ics.setIfInBounds i u) l4 :=
  h.fr ((Fr.refl W (fun k => k = it)).setCell (p := ⟨it, i, none⟩) (.inl rfl) u) (h.B.set i u)

theorem Lk.lock (h : Lk w W D base p V f ns kb nb it sv st lim cs ics l4) (l : Int) : Lk w (W.setCell ⟨p, 6, none⟩ (.int .i32 l)) D base p V f ns kb nb it sv st lim (cs.setIfInBounds 6 (.int .i32 l)) ics l := by
  have hpi : it ≠ p := fun e => h.ne (.inr (.inl e))
  have ha := h.T.away h.Rn
  refine ⟨h.T.set 6 _, h.C.set6 l, h.Rn.set ha.rp ha.gp _, (Below.heap_setCell _ _ _ it hpi).trans h.B, h.rg.keep (fun k hk hlt => Below.heap_setCell _ _ _ k (fun e => hk.2 (.inr (.inl e)))), h.F.setCell (p := ⟨p, 6, none⟩) (.inl (.inr rfl)) _, h.M, h.ne⟩

theorem Lk.rest (h : Lk w W D base p V f ns kb nb it sv st lim cs ics 0) (hi : ItAt D.kv D.Kx ics p sv fw o) (ho : ∀ x, o = some x → x ∈ ns) : MIt W { D with cs := cs } base p V f ns kb nb it sv st lim fw o :=
  ⟨⟨h.T, h.C, h.M.S, h.Rn, h.M.cm, h.M.sorted, h.M.byt, h.M.cap, h.M.kvb, h.M.ndb, h.M.few, h.M.light, h.M.far⟩, ⟨ics, h.B, hi⟩, ho, h.rg, h.ne⟩

theorem Lk.cellP (h : Lk w W D base p V f ns kb nb it sv st lim cs ics l4) {i : Nat} {u : Value} (hu : cs[i]? = some u) : W.cell? ⟨p, i, none⟩ = some u := (blk_cell h.T.cell i).trans hu
theorem Lk.fP (h : Lk w W D base p V f ns kb nb it sv st lim cs ics l4) (i : Nat) : W.frozen? ⟨p, i, none⟩ = false := blk_frozen h.T.cell i

theorem Lk.rgF (h : Lk w W D base p V f ns kb nb it sv st lim cs ics l4) : Rg2 W (fun k => k ≠ it) sv st lim := by
  rcases h.rg with q | ⟨s, Sb, Lb, h1, h2, h3, h4, h5, h6, h7, h8⟩
  · exact .inl q
  · exact .inr ⟨s, Sb, Lb, h1, h2.1, h3, h4, h5, h6, fun l a c e1 e2 => (h7 l a c e1 e2).1, fun l a c e1 e2 => (h8 l a c e1 e2).1⟩

theorem Lk.fillU (h : Lk w W D base p V f ns kb nb it sv st lim cs ics l4) {k v : Value} (hkb : kb ≤ 1099511627776) (hnb : nb ≤ 1099511627776) (hi : Is ics p sv ((addr o : Nat) : Int) fw k v) (ho : ∀ x, o = some x → x ∈ ns) :
    Calls Tryz.prog 175 #[.pointer (some ⟨it, 0, none⟩), .bool false, .bool true] W fun e w' => ∃ b : Bool, e = .returned (.bool b) ∧ Hid (b = (o.filter fun x => under f lim x.key).isSome) ∧ ∃ ics', ItAt D.kv D.Kx ics' p sv fw (o.filter fun x => under f lim x.key) ∧ Lk w w' D base p V f ns kb nb it sv st lim cs ics' l4 := by
  refine (FillU_calls (N := D.N) (c := D.c) (Kx := D.Kx) (ck := D.ck) (nd := D.nd) (kv := D.kv) h.T h.C h.M.S (Nat.le_trans h.M.ndb hnb) (Nat.le_trans h.M.kvb hkb) h.M.cap h.M.cm h.M.byt h.B hi ho h.rgF (fun e => h.ne (.inr (.inl e))) (fun e => h.ne (.inr (.inr (.inr (.inl e))))) (fun e => h.ne (.inr (.inr (.inr (.inr e)))))).mono ?_
  rintro e w' ⟨rfl, hf, ics', hb, hia⟩
  exact ⟨_, rfl, Lib.hid rfl, ics', hia, h.fr hf hb⟩

theorem Lk.fillO (h : Lk w W D base p V f ns kb nb it sv st lim cs ics l4) {k v : Value} (hkb : kb ≤ 1099511627776) (hnb : nb ≤ 1099511627776) (hi : Is ics p sv ((addr o : Nat) : Int) fw k v) (ho : ∀ x, o = some x → x ∈ ns) :
    Calls Tryz.prog 175 #[.pointer (some ⟨it, 0, none⟩), .bool true, .bool false] W fun e w' => ∃ b : Bool, e = .returned (.bool b) ∧ Hid (b = (o.filter fun x => over f st x.key).isSome) ∧ ∃ ics', ItAt D.kv D.Kx ics' p sv fw (o.filter fun x => over f st x.key) ∧ Lk w w' D base p V f ns kb nb it sv st lim cs ics' l4 := by
  refine (FillO_calls (N := D.N) (c := D.c) (Kx := D.Kx) (ck := D.ck) (nd := D.nd) (kv := D.kv) h.T h.C h.M.S (Nat.le_trans h.M.ndb hnb) (Nat.le_trans h.M.kvb hkb) h.M.cap h.M.cm h.M.byt h.B hi ho h.rgF (fun e => h.ne (.inr (.inl e))) (fun e => h.ne (.inr (.inr (.inr (.inl e))))) (fun e => h.ne (.inr (.inr (.inr (.inr e)))))).mono ?_
  rintro e w' ⟨rfl, hf, ics', hb, hia⟩
  exact ⟨_, rfl, Lib.hid rfl, ics', hia, h.fr hf hb⟩
end

theorem ItAt.is {kv : List Int} {Kx : Option Addr} {ics : Array Value} {p : Nat} {sv : Value} {fw : Bool} {o : Option Node} (h : ItAt kv Kx ics p sv fw o) : ∃ A n c B m d, Is ics p sv ((addr o : Nat) : Int) fw (.slice A n c) (.slice B m d) := by
  cases o with
  | none => exact ⟨_, _, _, _, _, _, h⟩
  | some x =>
    obtain ⟨A, c, B, d, h, _⟩ := h
    exact ⟨_, _, _, _, _, _, h⟩

end Go.Proofs.YtdkkkikcigjlhaaGreatDoor.Md

namespace Go.Proofs.YtdkkkikcigjlhaaGreatDoor.Md
open Go.RowKit Go.Proofs.YtdkkkikcigjlhaaGreatDoor.Con Go.Proofs.YtdkkkikcigjlhaaGreatDoor.Run Go.Proofs.YtdkkkikcigjlhaaGreatDoorW.PrintWords Go.Proofs.YtdkkkikcigjlhaaGreatDoorW.PrintMore Go.Proofs.YtdkkkikcigjlhaaGreatDoor.Cmp Go.Sort Go.RwLone

def Moved (w : World) (D : MemD) (base p : Nat) (V : Value) (f : List Int → List Int → Int) (ns : List Node) (kb nb it : Nat) (sv : Value) (st lim : Option (List Int)) (fw : Bool) (o : Option Node) (e : Ending) (w' : World) : Prop :=
  e = .returned (.bool o.isSome) ∧ ∃ cs, MIt w' { D with cs := cs } base p V f ns kb nb it sv st lim fw o ∧ Fr w w' (fun k => k = it ∨ k = p)

theorem Option.mem_of_mem_filter {α : Type} {p : α → Bool} {o : Option α} {x : α} (h : o.filter p = some x) : o = some x := by
  cases o with
  | none => cases h
  | some y =>
    rw [Option.filter_some] at h
    split at h
    · exact h
    · cases h

theorem sorted_right {f : List Int → List Int → Int} {ns P R : List Node} (e : ns = P ++ R) (h : Sorted f ns) : Sorted f R := by
  rw [e] at h
  exact (List.pairwise_append.1 h).2.1

theorem nxt_head {R : List Node} (h : ∀ x ∈ R, 1 ≤ x.h) : nxt 0 R = addr R.head? := by
  cases R with
  | nil => rfl
  | cons x r =>
    have := h x List.mem_cons_self
    rw [nxt, if_pos (by omega)]
    rfl

theorem head_link {nd kv : List Int} {mh : Nat} {ns : List Node} (h : Skip nd kv mh ns) : G nd 4 = ((addr ns.head? : Nat) : Int) := by
  have := h.links [] ns rfl 0 (by omega)
  cases ns with
  | nil => exact this
  | cons x r =>
    have h1 := (h.ok x List.mem_cons_self).h1
    rw [nxt, if_pos (by omega)] at this
    exact this

set_option maxHeartbeats 3200000 in
set_option maxRecDepth 100000 in
theorem First_all {w : World} {D : MemD} {base p kb nb it : Nat} {V sv : Value} {f : List Int → List Int → Int} {ns : List Node} {lim : Option (List Int)} {fw : Bool} {o : Option Node} (h : MIt w D base p V f ns kb nb it sv none lim fw o) (hkb : kb ≤ 1099511627776) (hnb : nb ≤ 1099511627776) :
    Calls Tryz.prog 164 #[.pointer (some ⟨it, 0, none⟩)] w fun e w' => Moved w D base p V f ns kb nb it sv none lim true (ns.head?.filter fun x => under f lim x.key) e w' := by
  obtain ⟨ics, hb, hia⟩ := h.blk
  obtain ⟨A1, n1, c1, B1, m1, d1, hi⟩ := hia.is
  have HK := Lib.hid (And.intro hkb hnb)
  have hL := Lk.of h hb
  have e1 := hb.cell hi.c1
  have e5 := hb.cell hi.c5
  have f5 := hb.froz 5
  have e2 := hb.cell hi.c2
  have HL1 := Lib.hid (hL.setIt 5 (.bool true))
  have HI1 := Lib.hid (hi.s5 true)
  have HREL := Lib.hid (Released_calls e1)
  clear h hb hia hi hL hkb hnb
  go_enter_defers Tryz.func164, Tryz.ntmps164
  go_upto_region 5 with (go_at_call 174; (with_reducible refine HREL.out.mono ?_); rintro e w' ⟨rfl, rfl⟩)
  generalize w.setCell ⟨it, 5, none⟩ (.bool true) = w1 at *
  have e2 := HL1.out.B.cell HI1.out.c2
  have q6 := HL1.out.cellP HL1.out.C.c6
  have g6 := HL1.out.fP 6
  go_wp2_with (fail)
  refine (rlock_open rwRLib p 2 0 _ _ _ (HL1.out.cellP HL1.out.C.c2) (HL1.out.cellP HL1.out.C.c5) q6 g6 (by rw [up1]; decide)).mono ?_
  rintro e w' ⟨rfl, rfl⟩
  simp only [up1, show 2 + 4 = 6 from rfl]
  have HL2 := Lib.hid (HL1.out.lock 1)
  clear q6 g6 HL1 e1 e5 f5
  generalize w1.setCell ⟨p, 6, none⟩ (.int .i32 1) = w2 at *
  have e2 := HL2.out.B.cell HI1.out.c2
  have e3 := HL2.out.B.cell HI1.out.c3
  have hnn := fun (W : World) (a : Option Addr) (n c n' c' : Nat) => run_neq_slice_nil_any (P := Tryz.prog) W 25 5 a n c n' c' Tryz.underlying25
  rcases HL2.out.rg with ⟨rfl, _, _⟩ | ⟨s, Sb, Lb, rfl, hs1, hs2, hs3, hs4, hs5, hs6, hs7⟩
  · go_upto_region 9 with (fail)
    obtain ⟨ad, hN, hx4⟩ := HL2.out.T.at' (i := 4) (by have := HL2.out.M.S.len; omega)
    rw [head_link HL2.out.M.S] at hx4
    have d9 : w2.cell? ⟨p, 9, none⟩ = some (.slice (some ad) D.nd.length D.c) := by
      have h9 := HL2.out.cellP HL2.out.C.c9
      rw [MemD.vn, hN] at h9
      exact h9
    have hlen : (4 : Int) < (D.nd.length : Int) := by have := HL2.out.M.S.len; omega
    have e4 := HL2.out.B.cell HI1.out.c4
    have f4 := HL2.out.B.froz 4
    have HL3 := Lib.hid (HL2.out.setIt 4 (.int .i64 ((addr ns.head? : Nat) : Int)))
    have HI3 := Lib.hid (HI1.out.s4 ((addr ns.head? : Nat) : Int))
    have HFILL := Lib.hid (HL3.out.fillU (o := ns.head?) HK.out.1 HK.out.2 HI3.out (fun x hx => List.mem_of_mem_head? hx))
    clear HL2 HI1 hN
    go_wp2_with (go_at_call 175; (with_reducible refine HFILL.out.mono ?_); rintro e w4 ⟨bb, rfl, hbb, ics4, hia4, hL4⟩)
    refine leaves_cons (f := 92) (args := #[.pointer (some ⟨p, 2, none⟩)]) (by simp) (by simp [go_sem]) ?_
    refine (runlock_deferred rwRLib p 2 1 (.int .i32 0) (.int .u32 0) .returning _ (hL4.cellP hL4.C.c2) (hL4.cellP hL4.C.c4) (hL4.cellP hL4.C.c6) (hL4.fP 6) (by rw [down1]; decide)).mono ?_
    rintro e u' w'' ⟨rfl, rfl, rfl⟩
    rw [down1]
    have hL5 := hL4.lock 0
    exact ⟨_, results_tmp rfl _ _ _, by rw [← hbb.out]; rfl, _, hL5.rest hia4 (fun x hx => List.mem_of_mem_head? (Option.mem_of_mem_filter hx)), hL5.F⟩
  · obtain rfl : Sb = .slice none 0 0 := hs4
    go_upto_region 9 with (fail)
    obtain ⟨ad, hN, hx4⟩ := HL2.out.T.at' (i := 4) (by have := HL2.out.M.S.len; omega)
    rw [head_link HL2.out.M.S] at hx4
    have d9 : w2.cell? ⟨p, 9, none⟩ = some (.slice (some ad) D.nd.length D.c) := by
      have h9 := HL2.out.cellP HL2.out.C.c9
      rw [MemD.vn, hN] at h9
      exact h9
    have hlen : (4 : Int) < (D.nd.length : Int) := by have := HL2.out.M.S.len; omega
    have e4 := HL2.out.B.cell HI1.out.c4
    have f4 := HL2.out.B.froz 4
    have HL3 := Lib.hid (HL2.out.setIt 4 (.int .i64 ((addr ns.head? : Nat) : Int)))
    have HI3 := Lib.hid (HI1.out.s4 ((addr ns.head? : Nat) : Int))
    have HFILL := Lib.hid (HL3.out.fillU (o := ns.head?) HK.out.1 HK.out.2 HI3.out (fun x hx => List.mem_of_mem_head? hx))
    clear HL2 HI1 hN
    go_wp2_with (go_at_call 175; (with_reducible refine HFILL.out.mono ?_); rintro e w4 ⟨bb, rfl, hbb, ics4, hia4, hL4⟩)
    refine leaves_cons (f := 92) (args := #[.pointer (some ⟨p, 2, none⟩)]) (by simp) (by simp [go_sem]) ?_
    refine (runlock_deferred rwRLib p 2 1 (.int .i32 0) (.int .u32 0) .returning _ (hL4.cellP hL4.C.c2) (hL4.cellP hL4.C.c4) (hL4.cellP hL4.C.c6) (hL4.fP 6) (by rw [down1]; decide)).mono ?_
    rintro e u' w'' ⟨rfl, rfl, rfl⟩
    rw [down1]
    have hL5 := hL4.lock 0
    exact ⟨_, results_tmp rfl _ _ _, by rw [← hbb.out]; rfl, _, hL5.rest hia4 (fun x hx => List.mem_of_mem_head? (Option.mem_of_mem_filter hx)), hL5.F⟩

set_option maxHeartbeats 3200000 in
set_option maxRecDepth 100000 in
theorem First_from {w : World} {D : MemD} {base p kb nb it : Nat} {V sv : Value} {f : List Int → List Int → Int} {ns P R : List Node} {lim : Option (List Int)} {fw : Bool} {o : Option Node} {l : List Int} (h : MIt w D base p V f ns kb nb it sv (some l) lim fw o) (hkb : kb ≤ 1099511627776) (hnb : nb ≤ 1099511627776) (hns : ns = P ++ R) (hP : ∀ x ∈ P, f x.key l < 0) (hR : ∀ x ∈ R, 0 ≤ f x.key l) :
    Calls Tryz.prog 164 #[.pointer (some ⟨it, 0, none⟩)] w fun e w' => Moved w D base p V f ns kb nb it sv (some l) lim true (R.head?.filter fun x => under f lim x.key) e w' := by
  obtain ⟨ics, hb, hia⟩ := h.blk
  obtain ⟨A1, n1, c1, B1, m1, d1, hi⟩ := hia.is
  have HK := Lib.hid (And.intro hkb hnb)
  have hL := Lk.of h hb
  have e1 := hb.cell hi.c1
  have e5 := hb.cell hi.c5
  have f5 := hb.froz 5
  have e2 := hb.cell hi.c2
  have HL1 := Lib.hid (hL.setIt 5 (.bool true))
  have HI1 := Lib.hid (hi.s5 true)
  have HPR := Lib.hid (And.intro hns (And.intro hP hR))
  have HREL := Lib.hid (Released_calls e1)
  clear h hb hia hi hL hkb hnb hns hP hR
  go_enter_defers Tryz.func164, Tryz.ntmps164
  go_upto_region 5 with (go_at_call 174; (with_reducible refine HREL.out.mono ?_); rintro e w' ⟨rfl, rfl⟩)
  generalize w.setCell ⟨it, 5, none⟩ (.bool true) = w1 at *
  have e2 := HL1.out.B.cell HI1.out.c2
  have q6 := HL1.out.cellP HL1.out.C.c6
  have g6 := HL1.out.fP 6
  go_wp2_with (fail)
  refine (rlock_open rwRLib p 2 0 _ _ _ (HL1.out.cellP HL1.out.C.c2) (HL1.out.cellP HL1.out.C.c5) q6 g6 (by rw [up1]; decide)).mono ?_
  rintro e w' ⟨rfl, rfl⟩
  simp only [up1, show 2 + 4 = 6 from rfl]
  have HL2 := Lib.hid (HL1.out.lock 1)
  clear q6 g6 HL1 e1 e5 f5
  generalize w1.setCell ⟨p, 6, none⟩ (.int .i32 1) = w2 at *
  have e2 := HL2.out.B.cell HI1.out.c2
  have e3 := HL2.out.B.cell HI1.out.c3
  have hnn := fun (W : World) (a : Option Addr) (n c n' c' : Nat) => run_neq_slice_nil_any (P := Tryz.prog) W 25 5 a n c n' c' Tryz.underlying25
  rcases HL2.out.rg with ⟨_, q, _⟩ | ⟨s, Sb, Lb, rfl, hs1, hs2, hs3, hs4, hs5, hs6, hs7⟩
  · cases q
  · obtain ⟨la, lc, rfl, hlc, hlb⟩ := hs4
    have HLC := Lib.hid hlc
    have HLB := Lib.hid hlb
    clear hlc hlb hs1 hs3 hs5 hs6 hs7
    go_upto_region 8 with (fail)
    have HD := Lib.hid (HL2.out.below (below_drew (Below.refl _ _)))
    have HGF := Lib.hid (GF_calls (N := D.N) (c := D.c) (Kx := D.Kx) (ck := D.ck) (nd := D.nd) (kv := D.kv) (ca := lc) HD.out.T HD.out.C HD.out.M.S (Nat.le_trans HD.out.M.ndb HK.out.2) (Nat.le_trans HD.out.M.kvb HK.out.1) HD.out.M.cap HD.out.M.cm HPR.out.1 HPR.out.2.1 HPR.out.2.2 (sorted_right HPR.out.1 HD.out.M.sorted) HLB.out (fun x hx => (HD.out.M.byt x hx).1) (Kd.C_below HLC.out (below_drew (Below.refl _ _))))
    refine wp_region_noPanic ?_
    go_region_law
      (go_simp; go_at_call 89; (with_reducible refine HGF.out.mono ?_); rintro e w3 ⟨ex, rfl, hex, hb3⟩; have h4 := (HD.out.below hb3).B.cell HI1.out.c4; have g4 := (HD.out.below hb3).B.froz 4)
    all_goals refine NoPanic.normal ?_
    all_goals
      have HL3 := Lib.hid ((HD.out.below hb3).setIt 4 (.int .i64 ((addr R.head? : Nat) : Int)))
      have HI3 := Lib.hid (HI1.out.s4 ((addr R.head? : Nat) : Int))
      have HFILL := Lib.hid (HL3.out.fillU (o := R.head?) HK.out.1 HK.out.2 HI3.out (fun x hx => by rw [HPR.out.1]; exact List.mem_append_right _ (List.mem_of_mem_head? hx)))
      rw [nxt_head (fun x hx => (HL2.out.M.S.ok x (by rw [HPR.out.1]; exact List.mem_append_right _ hx)).h1)]
      clear h4 g4 hb3 hex HGF HD
      go_wp2_with (go_at_call 175; (with_reducible refine HFILL.out.mono ?_); rintro e w4 ⟨bb, rfl, hbb, ics4, hia4, hL4⟩)
      refine leaves_cons (f := 92) (args := #[.pointer (some ⟨p, 2, none⟩)]) (by simp) (by simp [go_sem]) ?_
      refine (runlock_deferred rwRLib p 2 1 (.int .i32 0) (.int .u32 0) .returning _ (hL4.cellP hL4.C.c2) (hL4.cellP hL4.C.c4) (hL4.cellP hL4.C.c6) (hL4.fP 6) (by rw [down1]; decide)).mono ?_
      rintro e u' w'' ⟨rfl, rfl, rfl⟩
      rw [down1]
      have hL5 := hL4.lock 0
      exact ⟨_, results_tmp rfl _ _ _, by rw [← hbb.out]; rfl, _, hL5.rest hia4 (fun x hx => by rw [HPR.out.1]; exact List.mem_append_right _ (List.mem_of_mem_head? (Option.mem_of_mem_filter hx))), hL5.F⟩

theorem prv_last {P : List Node} (h : ∀ x ∈ P, 1 ≤ x.h) : prv 0 P = addr P.getLast? := by
  have := nxt_head (R := P.reverse) (fun x hx => h x (List.mem_reverse.1 hx))
  rw [List.head?_reverse] at this
  exact this

set_option maxHeartbeats 3200000 in
set_option maxRecDepth 100000 in
theorem Last_all {w : World} {D : MemD} {base p kb nb it : Nat} {V sv : Value} {f : List Int → List Int → Int} {ns : List Node} {st : Option (List Int)} {fw : Bool} {o : Option Node} (h : MIt w D base p V f ns kb nb it sv st none fw o) (hkb : kb ≤ 1099511627776) (hnb : nb ≤ 1099511627776) :
    Calls Tryz.prog 166 #[.pointer (some ⟨it, 0, none⟩)] w fun e w' => Moved w D base p V f ns kb nb it sv st none false (ns.getLast?.filter fun x => over f st x.key) e w' := by
  obtain ⟨ics, hb, hia⟩ := h.blk
  obtain ⟨A1, n1, c1, B1, m1, d1, hi⟩ := hia.is
  have HK := Lib.hid (And.intro hkb hnb)
  have hL := Lk.of h hb
  have e1 := hb.cell hi.c1
  have e5 := hb.cell hi.c5
  have f5 := hb.froz 5
  have e2 := hb.cell hi.c2
  have HL1 := Lib.hid (hL.setIt 5 (.bool false))
  have HI1 := Lib.hid (hi.s5 false)
  have HREL := Lib.hid (Released_calls e1)
  clear h hb hia hi hL hkb hnb
  go_enter_defers Tryz.func166, Tryz.ntmps166
  go_upto_region 5 with (go_at_call 174; (with_reducible refine HREL.out.mono ?_); rintro e w' ⟨rfl, rfl⟩)
  generalize w.setCell ⟨it, 5, none⟩ (.bool false) = w1 at *
  have e2 := HL1.out.B.cell HI1.out.c2
  have q6 := HL1.out.cellP HL1.out.C.c6
  have g6 := HL1.out.fP 6
  go_wp2_with (fail)
  refine (rlock_open rwRLib p 2 0 _ _ _ (HL1.out.cellP HL1.out.C.c2) (HL1.out.cellP HL1.out.C.c5) q6 g6 (by rw [up1]; decide)).mono ?_
  rintro e w' ⟨rfl, rfl⟩
  simp only [up1, show 2 + 4 = 6 from rfl]
  have HL2 := Lib.hid (HL1.out.lock 1)
  clear q6 g6 HL1 e1 e5 f5
  generalize w1.setCell ⟨p, 6, none⟩ (.int .i32 1) = w2 at *
  have e2 := HL2.out.B.cell HI1.out.c2
  have e3 := HL2.out.B.cell HI1.out.c3
  have hnn := fun (W : World) (a : Option Addr) (n c n' c' : Nat) => run_neq_slice_nil_any (P := Tryz.prog) W 25 5 a n c n' c' Tryz.underlying25
  rcases HL2.out.rg with ⟨rfl, _, _⟩ | ⟨s, Sb, Lb, rfl, hs1, hs2, hs3, hs4, hs5, hs6, hs7⟩
  · have e4 := HL2.out.B.cell HI1.out.c4
    have f4 := HL2.out.B.froz 4
    have HLA := Lib.hid (Last_calls (N := D.N) (c := D.c) (nd := D.nd) HL2.out.T HL2.out.C HL2.out.M.S (Nat.le_trans HL2.out.M.ndb HK.out.2))
    have HL3 := Lib.hid (HL2.out.setIt 4 (.int .i64 ((addr ns.getLast? : Nat) : Int)))
    have HI3 := Lib.hid (HI1.out.s4 ((addr ns.getLast? : Nat) : Int))
    have HPL := Lib.hid (prv_last (P := ns) (fun x hx => (HL2.out.M.S.ok x hx).h1))
    have HFILL := Lib.hid (HL3.out.fillO (o := ns.getLast?) HK.out.1 HK.out.2 HI3.out (fun x hx => List.mem_of_getLast? hx))
    clear HL2 HI1
    go_upto_region 10 with (go_at_call 177; (with_reducible refine HLA.out.mono ?_); rintro e w3 ⟨rfl, rfl⟩; rw [HPL.out])
    go_wp2_with (go_at_call 175; (with_reducible refine HFILL.out.mono ?_); rintro e w4 ⟨bb, rfl, hbb, ics4, hia4, hL4⟩)
    refine leaves_cons (f := 92) (args := #[.pointer (some ⟨p, 2, none⟩)]) (by simp) (by simp [go_sem]) ?_
    refine (runlock_deferred rwRLib p 2 1 (.int .i32 0) (.int .u32 0) .returning _ (hL4.cellP hL4.C.c2) (hL4.cellP hL4.C.c4) (hL4.cellP hL4.C.c6) (hL4.fP 6) (by rw [down1]; decide)).mono ?_
    rintro e u' w'' ⟨rfl, rfl, rfl⟩
    rw [down1]
    have hL5 := hL4.lock 0
    exact ⟨_, results_tmp rfl _ _ _, by rw [← hbb.out]; rfl, _, hL5.rest hia4 (fun x hx => List.mem_of_getLast? (Option.mem_of_mem_filter hx)), hL5.F⟩
  · obtain rfl : Lb = .slice none 0 0 := hs5
    have e4 := HL2.out.B.cell HI1.out.c4
    have f4 := HL2.out.B.froz 4
    have HLA := Lib.hid (Last_calls (N := D.N) (c := D.c) (nd := D.nd) HL2.out.T HL2.out.C HL2.out.M.S (Nat.le_trans HL2.out.M.ndb HK.out.2))
    have HL3 := Lib.hid (HL2.out.setIt 4 (.int .i64 ((addr ns.getLast? : Nat) : Int)))
    have HI3 := Lib.hid (HI1.out.s4 ((addr ns.getLast? : Nat) : Int))
    have HPL := Lib.hid (prv_last (P := ns) (fun x hx => (HL2.out.M.S.ok x hx).h1))
    have HFILL := Lib.hid (HL3.out.fillO (o := ns.getLast?) HK.out.1 HK.out.2 HI3.out (fun x hx => List.mem_of_getLast? hx))
    clear HL2 HI1
    go_upto_region 10 with (go_at_call 177; (with_reducible refine HLA.out.mono ?_); rintro e w3 ⟨rfl, rfl⟩; rw [HPL.out])
    go_wp2_with (go_at_call 175; (with_reducible refine HFILL.out.mono ?_); rintro e w4 ⟨bb, rfl, hbb, ics4, hia4, hL4⟩)
    refine leaves_cons (f := 92) (args := #[.pointer (some ⟨p, 2, none⟩)]) (by simp) (by simp [go_sem]) ?_
    refine (runlock_deferred rwRLib p 2 1 (.int .i32 0) (.int .u32 0) .returning _ (hL4.cellP hL4.C.c2) (hL4.cellP hL4.C.c4) (hL4.cellP hL4.C.c6) (hL4.fP 6) (by rw [down1]; decide)).mono ?_
    rintro e u' w'' ⟨rfl, rfl, rfl⟩
    rw [down1]
    have hL5 := hL4.lock 0
    exact ⟨_, results_tmp rfl _ _ _, by rw [← hbb.out]; rfl, _, hL5.rest hia4 (fun x hx => List.mem_of_getLast? (Option.mem_of_mem_filter hx)), hL5.F⟩

set_option maxHeartbeats 3200000 in
set_option maxRecDepth 100000 in
theorem Last_to {w : World} {D : MemD} {base p kb nb it : Nat} {V sv : Value} {f : List Int → List Int → Int} {ns P R : List Node} {st : Option (List Int)} {fw : Bool} {o : Option Node} {l : List Int} (h : MIt w D base p V f ns kb nb it sv st (some l) fw o) (hkb : kb ≤ 1099511627776) (hnb : nb ≤ 1099511627776) (hns : ns = P ++ R) (hP : ∀ x ∈ P, f x.key l < 0) (hR : ∀ x ∈ R, 0 ≤ f x.key l) :
    Calls Tryz.prog 166 #[.pointer (some ⟨it, 0, none⟩)] w fun e w' => Moved w D base p V f ns kb nb it sv st (some l) false (P.getLast?.filter fun x => over f st x.key) e w' := by
  obtain ⟨ics, hb, hia⟩ := h.blk
  obtain ⟨A1, n1, c1, B1, m1, d1, hi⟩ := hia.is
  have HK := Lib.hid (And.intro hkb hnb)
  have hL := Lk.of h hb
  have e1 := hb.cell hi.c1
  have e5 := hb.cell hi.c5
  have f5 := hb.froz 5
  have e2 := hb.cell hi.c2
  have HL1 := Lib.hid (hL.setIt 5 (.bool false))
  have HI1 := Lib.hid (hi.s5 false)
  have HPR := Lib.hid (And.intro hns (And.intro hP hR))
  have HREL := Lib.hid (Released_calls e1)
  clear h hb hia hi hL hkb hnb hns hP hR
  go_enter_defers Tryz.func166, Tryz.ntmps166
  go_upto_region 5 with (go_at_call 174; (with_reducible refine HREL.out.mono ?_); rintro e w' ⟨rfl, rfl⟩)
  generalize w.setCell ⟨it, 5, none⟩ (.bool false) = w1 at *
  have e2 := HL1.out.B.cell HI1.out.c2
  have q6 := HL1.out.cellP HL1.out.C.c6
  have g6 := HL1.out.fP 6
  go_wp2_with (fail)
  refine (rlock_open rwRLib p 2 0 _ _ _ (HL1.out.cellP HL1.out.C.c2) (HL1.out.cellP HL1.out.C.c5) q6 g6 (by rw [up1]; decide)).mono ?_
  rintro e w' ⟨rfl, rfl⟩
  simp only [up1, show 2 + 4 = 6 from rfl]
  have HL2 := Lib.hid (HL1.out.lock 1)
  clear q6 g6 HL1 e1 e5 f5
  generalize w1.setCell ⟨p, 6, none⟩ (.int .i32 1) = w2 at *
  have e2 := HL2.out.B.cell HI1.out.c2
  have e3 := HL2.out.B.cell HI1.out.c3
  have hnn := fun (W : World) (a : Option Addr) (n c n' c' : Nat) => run_neq_slice_nil_any (P := Tryz.prog) W 25 5 a n c n' c' Tryz.underlying25
  rcases HL2.out.rg with ⟨_, _, q⟩ | ⟨s, Sb, Lb, rfl, hs1, hs2, hs3, hs4, hs5, hs6, hs7⟩
  · cases q
  · obtain ⟨la, lc, rfl, hlc, hlb⟩ := hs5
    have HLC := Lib.hid hlc
    have HLB := Lib.hid hlb
    clear hlc hlb hs1 hs2 hs4 hs6 hs7
    go_upto_region 8 with (fail)
    have HD := Lib.hid (HL2.out.below (below_drew (Below.refl _ _)))
    have HGF := Lib.hid (LT_calls (N := D.N) (c := D.c) (Kx := D.Kx) (ck := D.ck) (nd := D.nd) (kv := D.kv) (ca := lc) HD.out.T HD.out.C HD.out.M.S (Nat.le_trans HD.out.M.ndb HK.out.2) (Nat.le_trans HD.out.M.kvb HK.out.1) HD.out.M.cap HD.out.M.cm HPR.out.1 HPR.out.2.1 HPR.out.2.2 (sorted_right HPR.out.1 HD.out.M.sorted) HLB.out (fun x hx => (HD.out.M.byt x hx).1) (Kd.C_below HLC.out (below_drew (Below.refl _ _))))
    refine wp_region_noPanic ?_
    go_region_law
      (go_simp; go_at_call 176; (with_reducible refine HGF.out.mono ?_); rintro e w3 ⟨rfl, hb3⟩; have h4 := (HD.out.below hb3).B.cell HI1.out.c4; have g4 := (HD.out.below hb3).B.froz 4)
    all_goals refine NoPanic.normal ?_
    all_goals
      have HL3 := Lib.hid ((HD.out.below hb3).setIt 4 (.int .i64 ((addr P.getLast? : Nat) : Int)))
      have HI3 := Lib.hid (HI1.out.s4 ((addr P.getLast? : Nat) : Int))
      have HFILL := Lib.hid (HL3.out.fillO (o := P.getLast?) HK.out.1 HK.out.2 HI3.out (fun x hx => by rw [HPR.out.1]; exact List.mem_append_left _ (List.mem_of_getLast? hx)))
      rw [prv_last (fun x hx => (HL2.out.M.S.ok x (by rw [HPR.out.1]; exact List.mem_append_left _ hx)).h1)]
      clear h4 g4 hb3 HGF HD
      go_wp2_with (go_at_call 175; (with_reducible refine HFILL.out.mono ?_); rintro e w4 ⟨bb, rfl, hbb, ics4, hia4, hL4⟩)
      refine leaves_cons (f := 92) (args := #[.pointer (some ⟨p, 2, none⟩)]) (by simp) (by simp [go_sem]) ?_
      refine (runlock_deferred rwRLib p 2 1 (.int .i32 0) (.int .u32 0) .returning _ (hL4.cellP hL4.C.c2) (hL4.cellP hL4.C.c4) (hL4.cellP hL4.C.c6) (hL4.fP 6) (by rw [down1]; decide)).mono ?_
      rintro e u' w'' ⟨rfl, rfl, rfl⟩
      rw [down1]
      have hL5 := hL4.lock 0
      exact ⟨_, results_tmp rfl _ _ _, by rw [← hbb.out]; rfl, _, hL5.rest hia4 (fun x hx => by rw [HPR.out.1]; exact List.mem_append_left _ (List.mem_of_getLast? (Option.mem_of_mem_filter hx))), hL5.F⟩

theorem next_link {nd kv : List Int} {mh : Nat} {ns A B : List Node} {x : Node} (h : Skip nd kv mh ns) (e : ns = A ++ x :: B) : G nd (x.a + 4) = ((addr B.head? : Nat) : Int) := by
  have h1 := h.links (A ++ [x]) B (by rw [e]; simp) 0 (by omega)
  have hx := (h.ok x (by rw [e]; simp)).h1
  rw [prv_hit 0 A [] x (by simp) (by omega), nxt_head (fun y hy => (h.ok y (by rw [e]; simp [hy])).h1)] at h1
  exact h1

theorem four_sums {a h n : Nat} (h1 : a + 4 + h ≤ n) (h2 : 1 ≤ h) (hn : n ≤ 1099511627776) :
    (a : Int) + 4 < (n : Int) ∧ (0 : Int) ≤ (a : Int) + 4 ∧ ((a : Int) + 4).toNat = a + 4 ∧ IntKind.i64.wrap ((a : Int) + 4) = (a : Int) + 4 :=
  ⟨by omega, by omega, by omega, iz (by omega) (by omega)⟩

theorem ez {a : Nat} (h : 16 ≤ a) : ((a : Int) == 0) = false := by rw [beq_eq_false_iff_ne]; omega

theorem split_at {f : List Int → List Int → Int} (ho : Ord f) {ns A B : List Node} {x : Node} (e : ns = A ++ x :: B) (h : Sorted f ns) : (∀ y ∈ A, f y.key x.key < 0) ∧ (∀ y ∈ x :: B, 0 ≤ f y.key x.key) := by
  rw [e] at h
  obtain ⟨_, h2, h3⟩ := List.pairwise_append.1 h
  refine ⟨fun y hy => h3 y hy x List.mem_cons_self, fun y hy => ?_⟩
  rcases List.mem_cons.1 hy with rfl | hy
  · rw [ho.refl]
    exact Int.le_refl 0
  · have := (List.pairwise_cons.1 h2).1 y hy
    rw [ho.swap]
    omega

set_option maxHeartbeats 3200000 in
set_option maxRecDepth 100000 in
theorem Next_on {w : World} {D : MemD} {base p kb nb it : Nat} {V sv : Value} {f : List Int → List Int → Int} {ns A B : List Node} {st lim : Option (List Int)} {fw : Bool} {x : Node} (h : MIt w D base p V f ns kb nb it sv st lim fw (some x)) (hkb : kb ≤ 1099511627776) (hnb : nb ≤ 1099511627776) (hns : ns = A ++ x :: B) :
    Calls Tryz.prog 167 #[.pointer (some ⟨it, 0, none⟩)] w fun e w' => Moved w D base p V f ns kb nb it sv st lim true (B.head?.filter fun x => under f lim x.key) e w' := by
  obtain ⟨ics, hb, hia⟩ := h.blk
  obtain ⟨A1, n1, c1, B1, m1, d1, hi⟩ := hia.is
  have HK := Lib.hid (And.intro hkb hnb)
  have hL := Lk.of h hb
  have e1 := hb.cell hi.c1
  have e5 := hb.cell hi.c5
  have f5 := hb.froz 5
  have e2 := hb.cell hi.c2
  have HL1 := Lib.hid (hL.setIt 5 (.bool true))
  have HI1 := Lib.hid (hi.s5 true)
  have hxo := h.M.S.ok x (h.on x rfl)
  have e4 : w.cell? ⟨it, 4, none⟩ = some (.int .i64 (x.a : Int)) := hb.cell hi.c4
  have z0 := ez hxo.a
  have HX := Lib.hid (And.intro hns hxo)
  have HREL := Lib.hid (Released_calls e1)
  clear h hb hia hi hL hkb hnb hns hxo
  go_enter_defers Tryz.func167, Tryz.ntmps167
  go_upto_region 9 with (go_at_call 174; (with_reducible refine HREL.out.mono ?_); rintro e w' ⟨rfl, rfl⟩)
  generalize w.setCell ⟨it, 5, none⟩ (.bool true) = w1 at *
  have e2 := HL1.out.B.cell HI1.out.c2
  have q6 := HL1.out.cellP HL1.out.C.c6
  have g6 := HL1.out.fP 6
  go_wp2_with (fail)
  refine (rlock_open rwRLib p 2 0 _ _ _ (HL1.out.cellP HL1.out.C.c2) (HL1.out.cellP HL1.out.C.c5) q6 g6 (by rw [up1]; decide)).mono ?_
  rintro e w' ⟨rfl, rfl⟩
  simp only [up1, show 2 + 4 = 6 from rfl]
  have HL2 := Lib.hid (HL1.out.lock 1)
  clear q6 g6 HL1 e1 e5 f5
  generalize w1.setCell ⟨p, 6, none⟩ (.int .i32 1) = w2 at *
  have e2 := HL2.out.B.cell HI1.out.c2
  have e3 := HL2.out.B.cell HI1.out.c3
  have e4 : w2.cell? ⟨it, 4, none⟩ = some (.int .i64 (x.a : Int)) := HL2.out.B.cell HI1.out.c4
  clear z0
  go_upto_region 11 with (fail)
  obtain ⟨ad, hN, hx4⟩ := HL2.out.T.at' (i := x.a + 4) (by have := HX.out.2.end_; have := HX.out.2.h1; omega)
  rw [next_link HL2.out.M.S HX.out.1] at hx4
  have d9 : w2.cell? ⟨p, 9, none⟩ = some (.slice (some ad) D.nd.length D.c) := by
    have h9 := HL2.out.cellP HL2.out.C.c9
    rw [MemD.vn, hN] at h9
    exact h9
  obtain ⟨s1, s2, s3, s4⟩ := four_sums HX.out.2.end_ HX.out.2.h1 (Nat.le_trans HL2.out.M.ndb HK.out.2)
  refine still_tail 17 (by kernel_rfl) (by kernel_rfl) ?_
  intro W3 hW3
  have HD := Lib.hid (HL2.out.below (drew_below hW3))
  have e2 := drew_cell hW3 e2
  have e4 := drew_cell hW3 e4
  have d9 := drew_cell hW3 d9
  have hx4 := drew_cell hW3 hx4
  have g4 := HD.out.B.froz 4
  clear hW3 HL2
  generalize x.a = xa at *
  simp only [List.take_succ_cons, List.take_zero, List.drop_succ_cons, List.drop_zero]
  repeat still_step
  refine wpStill_nil ?_
  have HL3 := Lib.hid (HD.out.setIt 4 (.int .i64 ((addr B.head? : Nat) : Int)))
  have HI3 := Lib.hid (HI1.out.s4 ((addr B.head? : Nat) : Int))
  have HFILL := Lib.hid (HL3.out.fillU (o := B.head?) HK.out.1 HK.out.2 HI3.out (fun y hy => by rw [HX.out.1]; exact List.mem_append_right _ (List.mem_cons_of_mem _ (List.mem_of_mem_head? hy))))
  clear s1 s2 s3 s4 d9 hx4 HD HI1
  go_wp2_with (go_at_call 175; (with_reducible refine HFILL.out.mono ?_); rintro e w4 ⟨bb, rfl, hbb, ics4, hia4, hL4⟩)
  refine leaves_cons (f := 92) (args := #[.pointer (some ⟨p, 2, none⟩)]) (by simp) (by simp [go_sem]) ?_
  refine (runlock_deferred rwRLib p 2 1 (.int .i32 0) (.int .u32 0) .returning _ (hL4.cellP hL4.C.c2) (hL4.cellP hL4.C.c4) (hL4.cellP hL4.C.c6) (hL4.fP 6) (by rw [down1]; decide)).mono ?_
  rintro e u' w'' ⟨rfl, rfl, rfl⟩
  rw [down1]
  have hL5 := hL4.lock 0
  exact ⟨_, results_tmp rfl _ _ _, by rw [← hbb.out]; rfl, _, hL5.rest hia4 (fun x hx => by rw [HX.out.1]; exact List.mem_append_right _ (List.mem_cons_of_mem _ (List.mem_of_mem_head? (Option.mem_of_mem_filter hx)))), hL5.F⟩

set_option maxHeartbeats 3200000 in
set_option maxRecDepth 100000 in
theorem Prev_on {w : World} {D : MemD} {base p kb nb it : Nat} {V sv : Value} {f : List Int → List Int → Int} {ns A B : List Node} {st lim : Option (List Int)} {fw : Bool} {x : Node} (h : MIt w D base p V f ns kb nb it sv st lim fw (some x)) (hkb : kb ≤ 1099511627776) (hnb : nb ≤ 1099511627776) (hns : ns = A ++ x :: B) :
    Calls Tryz.prog 168 #[.pointer (some ⟨it, 0, none⟩)] w fun e w' => Moved w D base p V f ns kb nb it sv st lim false (A.getLast?.filter fun x => over f st x.key) e w' := by
  obtain ⟨ics, hb, hia⟩ := h.blk
  obtain ⟨A1, c1, B1, d1, hi, hkc, _, hcut, _⟩ := hia
  have HK := Lib.hid (And.intro hkb hnb)
  have hL := Lk.of h hb
  have e1 := hb.cell hi.c1
  have e5 := hb.cell hi.c5
  have f5 := hb.froz 5
  have e2 := hb.cell hi.c2
  have HL1 := Lib.hid (hL.setIt 5 (.bool false))
  have HI1 := Lib.hid (hi.s5 false)
  have hxo := h.M.S.ok x (h.on x rfl)
  have e4 : w.cell? ⟨it, 4, none⟩ = some (.int .i64 (x.a : Int)) := hb.cell hi.c4
  have z0 := ez hxo.a
  have HX := Lib.hid (And.intro hns (And.intro hxo hcut))
  have HREL := Lib.hid (Released_calls e1)
  clear h hb hi hL hkb hnb hns hxo hcut hkc
  go_enter_defers Tryz.func168, Tryz.ntmps168
  go_upto_region 9 with (go_at_call 174; (with_reducible refine HREL.out.mono ?_); rintro e w' ⟨rfl, rfl⟩)
  generalize w.setCell ⟨it, 5, none⟩ (.bool false) = w1 at *
  have e2 := HL1.out.B.cell HI1.out.c2
  have q6 := HL1.out.cellP HL1.out.C.c6
  have g6 := HL1.out.fP 6
  go_wp2_with (fail)
  refine (rlock_open rwRLib p 2 0 _ _ _ (HL1.out.cellP HL1.out.C.c2) (HL1.out.cellP HL1.out.C.c5) q6 g6 (by rw [up1]; decide)).mono ?_
  rintro e w' ⟨rfl, rfl⟩
  simp only [up1, show 2 + 4 = 6 from rfl]
  have HL2 := Lib.hid (HL1.out.lock 1)
  clear q6 g6 HL1 e1 e5 f5
  generalize w1.setCell ⟨p, 6, none⟩ (.int .i32 1) = w2 at *
  have e2 := HL2.out.B.cell HI1.out.c2
  have e3 := HL2.out.B.cell HI1.out.c3
  have e6 : w2.cell? ⟨it, 6, none⟩ = some (.slice A1 x.key.length c1) := HL2.out.B.cell HI1.out.c6
  clear z0
  have HBX := Lib.hid (HL2.out.M.byt x (by rw [HX.out.1]; simp)).1
  have HSP := Lib.hid (split_at HL2.out.M.cm.ord HX.out.1 HL2.out.M.sorted)
  go_upto_region 11 with (fail)
  have HD := Lib.hid (HL2.out.below (below_drew (Below.refl _ _)))
  have HGF := Lib.hid (LT_calls (N := D.N) (c := D.c) (Kx := D.Kx) (ck := D.ck) (nd := D.nd) (kv := D.kv) (ca := c1) HD.out.T HD.out.C HD.out.M.S (Nat.le_trans HD.out.M.ndb HK.out.2) (Nat.le_trans HD.out.M.kvb HK.out.1) HD.out.M.cap HD.out.M.cm HX.out.1 HSP.out.1 HSP.out.2 (sorted_right HX.out.1 HD.out.M.sorted) HBX.out (fun x hx => (HD.out.M.byt x hx).1) (HX.out.2.2 _ (ints_C (own_reads' HD.out.T.kv))))
  refine wp_region_noPanic ?_
  go_region_law
    (go_simp; go_at_call 176; (with_reducible refine HGF.out.mono ?_); rintro e w3 ⟨rfl, hb3⟩; have h4 := (HD.out.below hb3).B.cell HI1.out.c4; have g4 := (HD.out.below hb3).B.froz 4)
  all_goals refine NoPanic.normal ?_
  all_goals
    have HL3 := Lib.hid ((HD.out.below hb3).setIt 4 (.int .i64 ((addr A.getLast? : Nat) : Int)))
    have HI3 := Lib.hid (HI1.out.s4 ((addr A.getLast? : Nat) : Int))
    have HFILL := Lib.hid (HL3.out.fillO (o := A.getLast?) HK.out.1 HK.out.2 HI3.out (fun y hy => by rw [HX.out.1]; exact List.mem_append_left _ (List.mem_of_getLast? hy)))
    rw [prv_last (fun y hy => (HL2.out.M.S.ok y (by rw [HX.out.1]; exact List.mem_append_left _ hy)).h1)]
    clear h4 g4 hb3 HGF HD
    go_wp2_with (go_at_call 175; (with_reducible refine HFILL.out.mono ?_); rintro e w4 ⟨bb, rfl, hbb, ics4, hia4, hL4⟩)
    refine leaves_cons (f := 92) (args := #[.pointer (some ⟨p, 2, none⟩)]) (by simp) (by simp [go_sem]) ?_
    refine (runlock_deferred rwRLib p 2 1 (.int .i32 0) (.int .u32 0) .returning _ (hL4.cellP hL4.C.c2) (hL4.cellP hL4.C.c4) (hL4.cellP hL4.C.c6) (hL4.fP 6) (by rw [down1]; decide)).mono ?_
    rintro e u' w'' ⟨rfl, rfl, rfl⟩
    rw [down1]
    have hL5 := hL4.lock 0
    exact ⟨_, results_tmp rfl _ _ _, by rw [← hbb.out]; rfl, _, hL5.rest hia4 (fun x hx => by rw [HX.out.1]; exact List.mem_append_left _ (List.mem_of_getLast? (Option.mem_of_mem_filter hx))), hL5.F⟩

set_option maxHeartbeats 3200000 in
set_option maxRecDepth 100000 in
theorem Next_end {w : World} {D : MemD} {base p kb nb it : Nat} {V sv : Value} {f : List Int → List Int → Int} {ns : List Node} {st lim : Option (List Int)}  (h : MIt w D base p V f ns kb nb it sv st lim true none) :
    Calls Tryz.prog 167 #[.pointer (some ⟨it, 0, none⟩)] w fun e w' => Moved w D base p V f ns kb nb it sv st lim true none e w' := by
  obtain ⟨ics, hb, hi⟩ := h.blk
  have hi : Is ics p sv 0 true nilS nilS := hi
  have e1 := hb.cell hi.c1
  have e4 := hb.cell hi.c4
  have e5 := hb.cell hi.c5
  have HREL := Lib.hid (Released_calls e1)
  have HM := Lib.hid h
  clear h hb hi
  go_enter_defers Tryz.func167, Tryz.ntmps167
  go_wp2_with (go_at_call 174; (with_reducible refine HREL.out.mono ?_); rintro e w' ⟨rfl, rfl⟩)
  exact ⟨_, results_tmp rfl _ _ _, rfl, D.cs, HM.out, Fr.refl _ _⟩

set_option maxHeartbeats 3200000 in
set_option maxRecDepth 100000 in
theorem Next_begin {w : World} {D : MemD} {base p kb nb it : Nat} {V sv : Value} {f : List Int → List Int → Int} {ns : List Node} {st lim : Option (List Int)} {fw2 : Bool} {o2 : Option Node} (h : MIt w D base p V f ns kb nb it sv st lim false none) (hcall : Calls Tryz.prog 164 #[.pointer (some ⟨it, 0, none⟩)] w fun e w' => Moved w D base p V f ns kb nb it sv st lim fw2 o2 e w') :
    Calls Tryz.prog 167 #[.pointer (some ⟨it, 0, none⟩)] w fun e w' => Moved w D base p V f ns kb nb it sv st lim fw2 o2 e w' := by
  obtain ⟨ics, hb, hi⟩ := h.blk
  have hi : Is ics p sv 0 false nilS nilS := hi
  have e1 := hb.cell hi.c1
  have e4 := hb.cell hi.c4
  have e5 := hb.cell hi.c5
  have HREL := Lib.hid (Released_calls e1)
  have hc : Calls Tryz.prog 164 #[.pointer (some ⟨it, 0, none⟩)] w fun e w' => ∃ b : Bool, e = .returned (.bool b) ∧ Hid (b = o2.isSome) ∧ ∃ cs, MIt w' { D with cs := cs } base p V f ns kb nb it sv st lim fw2 o2 ∧ Fr w w' (fun k => k = it ∨ k = p) :=
    hcall.mono (by rintro e w' ⟨rfl, cs, h1, h2⟩; exact ⟨_, rfl, Lib.hid rfl, cs, h1, h2⟩)
  have HC := Lib.hid hc
  clear h hb hi hcall hc
  go_enter_defers Tryz.func167, Tryz.ntmps167
  go_wp2_with (first | (go_at_call 174; (with_reducible refine HREL.out.mono ?_); rintro e w' ⟨rfl, rfl⟩) | (go_at_call 164; (with_reducible refine HC.out.mono ?_); rintro e w4 ⟨bb, rfl, hbb, cs, hm, hf⟩))
  exact ⟨_, results_tmp rfl _ _ _, by rw [← hbb.out]; rfl, cs, hm, hf⟩

set_option maxHeartbeats 3200000 in
set_option maxRecDepth 100000 in
theorem Prev_begin {w : World} {D : MemD} {base p kb nb it : Nat} {V sv : Value} {f : List Int → List Int → Int} {ns : List Node} {st lim : Option (List Int)}  (h : MIt w D base p V f ns kb nb it sv st lim false none) :
    Calls Tryz.prog 168 #[.pointer (some ⟨it, 0, none⟩)] w fun e w' => Moved w D base p V f ns kb nb it sv st lim false none e w' := by
  obtain ⟨ics, hb, hi⟩ := h.blk
  have hi : Is ics p sv 0 false nilS nilS := hi
  have e1 := hb.cell hi.c1
  have e4 := hb.cell hi.c4
  have e5 := hb.cell hi.c5
  have HREL := Lib.hid (Released_calls e1)
  have HM := Lib.hid h
  clear h hb hi
  go_enter_defers Tryz.func168, Tryz.ntmps168
  go_wp2_with (go_at_call 174; (with_reducible refine HREL.out.mono ?_); rintro e w' ⟨rfl, rfl⟩)
  exact ⟨_, results_tmp rfl _ _ _, rfl, D.cs, HM.out, Fr.refl _ _⟩

set_option maxHeartbeats 3200000 in
set_option maxRecDepth 100000 in
theorem Prev_end {w : World} {D : MemD} {base p kb nb it : Nat} {V sv : Value} {f : List Int → List Int → Int} {ns : List Node} {st lim : Option (List Int)} {fw2 : Bool} {o2 : Option Node} (h : MIt w D base p V f ns kb nb it sv st lim true none) (hcall : Calls Tryz.prog 166 #[.pointer (some ⟨it, 0, none⟩)] w fun e w' => Moved w D base p V f ns kb nb it sv st lim fw2 o2 e w') :
    Calls Tryz.prog 168 #[.pointer (some ⟨it, 0, none⟩)] w fun e w' => Moved w D base p V f ns kb nb it sv st lim fw2 o2 e w' := by
  obtain ⟨ics, hb, hi⟩ := h.blk
  have hi : Is ics p sv 0 true nilS nilS := hi
  have e1 := hb.cell hi.c1
  have e4 := hb.cell hi.c4
  have e5 := hb.cell hi.c5
  have HREL := Lib.hid (Released_calls e1)
  have hc : Calls Tryz.prog 166 #[.pointer (some ⟨it, 0, none⟩)] w fun e w' => ∃ b : Bool, e = .returned (.bool b) ∧ Hid (b = o2.isSome) ∧ ∃ cs, MIt w' { D with cs := cs } base p V f ns kb nb it sv st lim fw2 o2 ∧ Fr w w' (fun k => k = it ∨ k = p) :=
    hcall.mono (by rintro e w' ⟨rfl, cs, h1, h2⟩; exact ⟨_, rfl, Lib.hid rfl, cs, h1, h2⟩)
  have HC := Lib.hid hc
  clear h hb hi hcall hc
  go_enter_defers Tryz.func168, Tryz.ntmps168
  go_wp2_with (first | (go_at_call 174; (with_reducible refine HREL.out.mono ?_); rintro e w' ⟨rfl, rfl⟩) | (go_at_call 166; (with_reducible refine HC.out.mono ?_); rintro e w4 ⟨bb, rfl, hbb, cs, hm, hf⟩))
  exact ⟨_, results_tmp rfl _ _ _, by rw [← hbb.out]; rfl, cs, hm, hf⟩

end Go.Proofs.YtdkkkikcigjlhaaGreatDoor.Md
