/- The memory table: Put of a key that is there. The memory table: Put of a key that is not there. -/
import Derived.Test.YtdkkkikcigjlhaaGreatDoorMj16
set_option linter.unusedVariables false
set_option linter.unusedSimpArgs false
namespace Go.Proofs.YtdkkkikcigjlhaaGreatDoor.Md
open Go.RowKit Go.Proofs.YtdkkkikcigjlhaaGreatDoor.Con Go.Proofs.YtdkkkikcigjlhaaGreatDoor.Run Go.Proofs.YtdkkkikcigjlhaaGreatDoorW.PrintWords Go.Proofs.YtdkkkikcigjlhaaGreatDoorW.PrintMore Go.Proofs.YtdkkkikcigjlhaaGreatDoor.Cmp Go.Sort Go.RwLone

theorem two_len {a b : Nat} (h1 : a ≤ 1099511627776) (h2 : b ≤ 1099511627776) : (a + b) * 1 ≤ 140737488355328 := by omega

theorem three_len {kv key kv3 val : List Int} (h : kv ++ key = kv3) (h1 : kv.length ≤ 1099511627776) (h2 : key.length ≤ 1099511627776) (h3 : val.length ≤ 1099511627776) : (kv3.length + val.length) * 1 ≤ 140737488355328 := by rw [← h, List.length_append]; omega

theorem val_len {nd kv : List Int} {mh : Nat} {x : Node} (h : NodeOk nd kv mh x) (hk : kv.length ≤ 1099511627776) : x.val.length ≤ 1099511627776 := by
  obtain ⟨o, _, h2, _⟩ := h.cell
  omega

theorem put_sums {sz : Int} {vl xl : Nat} (hv : vl ≤ 1099511627776) (hx : xl ≤ 1099511627776) (hs : 0 ≤ sz ∧ sz ≤ 1099511627776) :
    wrap64 ((vl : Int) - (xl : Int)) = (vl : Int) - (xl : Int) ∧ wrap64 (sz + ((vl : Int) - (xl : Int))) = sz + ((vl : Int) - (xl : Int)) := by
  unfold wrap64
  omega

set_option maxHeartbeats 3200000 in
set_option maxRecDepth 100000 in
theorem PutHit_calls {w : World} {base p r gr mh c ck ca cb : Nat} {cs : Array Value} {V : Value} {N Kx A0 B0 : Option Addr} {n sz : Int} {q : Nat → Int} {kv nd key val : List Int} {ns P R : List Node} {f : List Int → List Int → Int}
    (hT : Tab w base p cs (.slice Kx kv.length ck) (.slice N nd.length c) kv nd) (hC : Cs cs V r 0 0 (.slice Kx kv.length ck) (.slice N nd.length c) q (mh : Int) n sz) (hS : Skip nd kv mh ns) (hl : nd.length ≤ 1099511627776) (hkl : kv.length ≤ 1099511627776) (hck : kv.length ≤ ck)
    (hV : Cmpr V f) (hns : ns = P ++ R) (hP : ∀ x ∈ P, f x.key key < 0) (hR : ∀ x ∈ R, 0 ≤ f x.key key) (hs : Sorted f R) (hbk : Byt key) (hbv : ∀ x ∈ ns, Byt x.key)
    (hA : Kd.C (Kd.int .u8) w A0 key.length key) (hB : Kd.C (Kd.int .u8) w B0 val.length val) (hneA : 0 < key.length → ∀ a, A0 = some a → ¬ foot p gr (.slice Kx kv.length ck) (.slice N nd.length c) a.block) (hneB : 0 < val.length → ∀ a, B0 = some a → ¬ foot p gr (.slice Kx kv.length ck) (.slice N nd.length c) a.block)
    (hr : Rnd w r gr) (hkey : key.length ≤ 1099511627776) (hval : val.length ≤ 1099511627776) (hsz : 0 ≤ sz ∧ sz ≤ 1099511627776) (hhit : ∃ x R', R = x :: R' ∧ f x.key key = 0) :
    Calls Tryz.prog 66 #[.pointer (some ⟨p, 0, none⟩), .slice A0 key.length ca, .slice B0 val.length cb] w fun e w' => e = .returned .nilIface ∧ ∃ x R', R = x :: R' ∧ f x.key key = 0 ∧ PutLeft w base p gr (.slice Kx kv.length ck) (.slice N nd.length c) V r kv nd key val n (sz + ((val.length : Int) - (x.val.length : Int))) (P ++ { x with val := val } :: R') w' := by
  obtain ⟨g, rfl, hgp, hbg, hgl, hnc⟩ := hT.own (by have := hS.len; omega)
  have c2 : w.cell? ⟨p, 2, none⟩ = some (.int .i32 0) := (blk_cell hT.cell 2).trans hC.c2
  have c4 : w.cell? ⟨p, 4, none⟩ = some (.int .u32 0) := (blk_cell hT.cell 4).trans hC.c4
  have c5 : w.cell? ⟨p, 5, none⟩ = some (.int .u32 0) := (blk_cell hT.cell 5).trans hC.c5
  have c6 : w.cell? ⟨p, 6, none⟩ = some (.int .i32 0) := (blk_cell hT.cell 6).trans hC.c6
  have f2 := blk_frozen hT.cell 2
  have f6 := blk_frozen hT.cell 6
  have hT1 := (hT.set 2 (.int .i32 1)).set 6 (.int .i32 (-1073741824))
  have hC1 := (hC.set2 1).set6 (-1073741824)
  have hg1 := (grown_set w p 2 (.int .i32 1)).trans (grown_set (w.setCell ⟨p, 2, none⟩ (.int .i32 1)) p 6 (.int .i32 (-1073741824)))
  have hpA : 0 < key.length → ∀ a, A0 = some a → a.block ≠ p := fun hk a ha e => hneA hk a ha (.inl e)
  have HGE := Lib.hid (GE_calls (ca := ca) hT1 hC1 hS hl hkl hck hV hns hP hR hs hbk hbv (C_grown hA hg1 hpA) hpA)
  have HAW := Lib.hid (hT.away hr)
  have HR1 := Lib.hid ((hr.set (i := 2) HAW.out.rp HAW.out.gp (.int .i32 1)).set (i := 6) HAW.out.rp HAW.out.gp (.int .i32 (-1073741824)))
  have HG1 := Lib.hid hg1
  have HS := Lib.hid hS
  have HL := Lib.hid (And.intro hl (And.intro hkl hck))
  have HNS := Lib.hid hns
  have HN := Lib.hid (And.intro hsz (And.intro hkey hval))
  have HA := Lib.hid (And.intro hA hneA)
  have HB := Lib.hid (And.intro hB hneB)
  have HHIT := Lib.hid hhit
  have HO := Lib.hid hV.ord
  clear hT hC hS hl hkl hck hV hns hP hR hs hbk hbv hA hneA hB hneB hT1 hC1 hg1 hsz hkey hval hhit hr hpA hgp hbg hgl hnc
  go_enter_defers Tryz.func66, Tryz.ntmps66
  go_wp2_with (fail)
  refine (wlock_free rwWLib p 2 _ _ _ c2 c4 c5 c6 f2 f6).mono ?_
  rintro e w' ⟨rfl, rfl⟩
  simp only [show 2 + 4 = 6 from rfl]
  generalize (w.setCell ⟨p, 2, none⟩ (.int .i32 1)).setCell ⟨p, 6, none⟩ (.int .i32 (-1073741824)) = w1 at *
  go_upto_if 31 with (go_at_call 89; (with_reducible refine HGE.out.mono ?_); rintro e w2 ⟨ex, rfl, hex, hg2, cs2, q2, hT2, hC2, hq2, _⟩)
  obtain rfl : ex = true := hex.2 HHIT.out
  have HST := Lib.hid (show PutSt w base p gr (.slice Kx kv.length ck) (.slice (some ⟨g, 0, none⟩) nd.length c) V r (mh : Int) n sz q2 w2 cs2 (.slice Kx kv.length ck) (.slice (some ⟨g, 0, none⟩) nd.length c) kv nd from
    ⟨hT2, hC2, HR1.out.kept hg2 (fun e => HAW.out.rp (by injection e)) (fun e => HAW.out.gp (by injection e)), Fr.of_grown (HG1.out.trans hg2) (fun k hk => .inl (by injection hk with hk; exact hk.symm)), fun k hk => .inl hk⟩)
  clear hex hT2 hC2 hg2 hq2 HGE HR1 HG1
  obtain ⟨x, R', hR', hx0⟩ := HHIT.out
  have hns : ns = P ++ x :: R' := by rw [HNS.out, hR']
  have hxo := HS.out.ok x (by rw [hns]; simp)
  have e1 : nxt 0 R = x.a := by rw [hR', nxt, if_pos (by have := hxo.h1; omega)]
  have hxe : x.a + 4 ≤ nd.length := by have := hxo.end_; omega
  have HXO := Lib.hid hxo
  have HNS2 := Lib.hid hns
  have HY := Lib.hid (And.intro hR' hx0)
  have HSUM := Lib.hid (And.intro hxe (node_sums hxe HL.out.1))
  rw [e1]
  clear hR' hx0 hns hxo e1 hxe
  generalize hxa : x.a = xa at *
  have HXA := Lib.hid hxa
  clear hxa
  -- the key is appended
  have d8 := (HST.out.cellP 8 HST.out.C.c8).1
  have HCA := Lib.hid (HST.out.F.C HA.out.1 HA.out.2)
  generalize hkv3 : kv ++ key = kv3
  have HK3 := Lib.hid hkv3
  have HROOM := Lib.hid (two_len HL.out.2.1 HN.out.2.1)
  clear hkv3
  go_upto_region 7 with (at_builtin; go_loud (refine print_append_row base rfl (.tmp 41) (.tmp 42) 25 5 .u8 1 rfl Tryz.underlying25 info_u8 (by decide) _ kv key _ _ _ rfl rfl HST.out.T.kv (C_ints HCA.out) (Below.refl _ _) HST.out.T.room HROOM.out ?_); rw [HK3.out]; intro v3 w3 ho3 hb3 hg3 hat3; obtain ⟨K3, ck3, rfl⟩ := own_slice ho3; (have hG3 := (HST.out.T.grewKv ho3 hg3).1); have k8 := (blk_cell hG3 8).trans HST.out.C.c8; have kf8 := blk_frozen hG3 8)
  have HST3 := Lib.hid (HST.out.kvs ho3 hg3 hat3)
  clear ho3 hb3 hg3 hat3 hG3 k8 kf8 d8 HST HCA HROOM
  generalize w3.setCell ⟨p, 8, none⟩ (.slice K3 kv3.length ck3) = w4 at *
  -- the value is appended
  have d8 := (HST3.out.cellP 8 HST3.out.C.c8).1
  have HCB := Lib.hid (HST3.out.F.C HB.out.1 HB.out.2)
  generalize hkv4 : kv3 ++ val = kv4
  have HK4 := Lib.hid hkv4
  have HROOM := Lib.hid (three_len HK3.out HL.out.2.1 HN.out.2.1 HN.out.2.2)
  clear hkv4
  go_upto_region 8 with (at_builtin; go_loud (refine print_append_row base rfl (.tmp 50) (.tmp 51) 25 5 .u8 1 rfl Tryz.underlying25 info_u8 (by decide) _ kv3 val _ _ _ rfl rfl HST3.out.T.kv (C_ints HCB.out) (Below.refl _ _) HST3.out.T.room HROOM.out ?_); rw [HK4.out]; intro v5 w5 ho5 hb5 hg5 hat5; obtain ⟨K4, ck4, rfl⟩ := own_slice ho5; (have hG5 := (HST3.out.T.grewKv ho5 hg5).1); have k8 := (blk_cell hG5 8).trans HST3.out.C.c8; have kf8 := blk_frozen hG5 8)
  have HST4 := Lib.hid (HST3.out.kvs ho5 hg5 hat5)
  clear ho5 hb5 hg5 hat5 hG5 k8 kf8 d8 HST3 HCB HROOM
  generalize w5.setCell ⟨p, 8, none⟩ (.slice K4 kv4.length ck4) = w6 at *
  -- where they lie
  have d9 := (HST4.out.cellP 9 HST4.out.C.c9).1
  have m0 := HST4.out.T.numG (i := xa) (by have := HSUM.out.1; omega)
  have b0 := HSUM.out.2.1
  go_upto_region 9 with (fail)
  have hST5 := HST4.out.num xa (kv.length : Int)
  have HST5 := Lib.hid hST5
  clear hST5 HST4 m0 d9
  generalize w6.setCell ⟨g, xa, none⟩ (.int .i64 (kv.length : Int)) = w7 at *
  generalize hnd5 : nd.set xa (kv.length : Int) = nd5 at *
  have hl5 : nd5.length = nd.length := by rw [← hnd5, List.length_set]
  have HL5 := Lib.hid hl5
  have HND5 := Lib.hid hnd5
  have d9 := (HST5.out.cellP 9 HST5.out.C.c9).1
  have m2 := HST5.out.read hl5.symm (i := xa + 2) (by have := HSUM.out.1; omega)
  have hg2 : G nd5 (xa + 2) = (x.val.length : Int) := by
    rw [← hnd5, G_set_ne (by omega), ← HXA.out]
    exact HXO.out.vl
  rw [hg2] at m2
  obtain ⟨_, _, _, _, b1, _, b2, _, b3, b4, _, _⟩ := HSUM.out
  clear hl5 hnd5 hg2 b0
  generalize hxv : x.val.length = xv at *
  have HXV := Lib.hid hxv
  clear hxv b4
  go_upto_region 11 with (fail)
  have HST6 := Lib.hid (HST5.out.num' HL5.out.symm (xa + 2) (val.length : Int))
  clear HST5 m2 d9 b1 b2 b3
  generalize w7.setCell ⟨g, xa + 2, none⟩ (.int .i64 (val.length : Int)) = w8 at *
  obtain ⟨u1, u2⟩ := put_sums (sz := sz) (vl := val.length) (xl := xv) HN.out.2.2 (by rw [← HXV.out]; exact val_len HXO.out HL.out.2.1) HN.out.1
  have e24 := HST6.out.cellP 24 HST6.out.C.c24
  have HST7 := Lib.hid (HST6.out.s24 (sz + ((val.length : Int) - (xv : Int))))
  go_wp2_with (fail)
  refine leaves_cons (f := 88) (args := #[.pointer (some ⟨p, 2, none⟩)]) (by simp) (by simp [go_sem]) ?_
  have l2 := HST7.out.cellP 2 HST7.out.C.c2
  have l6 := HST7.out.cellP 6 HST7.out.C.c6
  refine (wunlock_deferred rwWLib p 2 (.int .u32 0) (.int .u32 0) .returning _ l2.1 (HST7.out.cellP 4 HST7.out.C.c4).1 (HST7.out.cellP 5 HST7.out.C.c5).1 l6.1 l2.2 l6.2).mono ?_
  rintro e u' w'' ⟨rfl, rfl, rfl⟩
  have hkey : x.key = key := (HO.out.zero _ _).1 HY.out.2
  have hsk : Skip ((nd5).set (xa + 2) (val.length : Int)) kv4 mh (P ++ { x with val := val } :: R') := by
    have h := skip_val HS.out HNS2.out val
    rw [show kv ++ (x.key ++ val) = kv4 from by rw [hkey, ← List.append_assoc, HK3.out, HK4.out], show (nd.set x.a (kv.length : Int)).set (x.a + 2) (val.length : Int) = nd5.set (xa + 2) (val.length : Int) from by rw [HXA.out, HND5.out]] at h
    exact h
  have hlk : kv4.length = kv.length + key.length + val.length := by rw [← HK4.out, ← HK3.out, List.length_append, List.length_append]
  have hl6 : (nd5.set (xa + 2) (val.length : Int)).length = nd.length := by rw [List.length_set, HL5.out]
  have hcap : kv4.length ≤ ck4 := own_cap HST7.out.T.kv
  refine ⟨_, results_tmp rfl _ _ _, rfl, x, R', HY.out.1, HY.out.2, ?_⟩
  rw [HXV.out]
  have h7 := HST7.out
  generalize (nd5.set (xa + 2) (val.length : Int)) = nd6 at *
  exact PutSt.left' hl6.symm h7 hsk (by omega) (by omega) hcap

theorem info_int : (Tryz.prog.info? 3).map (fun i => (i.zero, i.size, i.bytes)) = some (some (.int .i64 0), 1, 8) := by kernel_rfl
theorem lit_reads (W : World) (xs : List Int) (h : xs.length ≤ 9223372036854775807) : ReadsInt (W.alloc (.cells (nums .i64 xs).toArray 3)) .i64 (some ⟨W.heap.size, 0, none⟩) xs.length xs := own_reads' (own_lit W 0 3 .i64 xs (Nat.zero_le _) h)
theorem four_len {n : Nat} (h : n ≤ 1099511627776) : (n + 4) * 8 ≤ 140737488355328 := by omega

theorem row_small {n m i : Nat} (h : n + 16 ≤ 1099511627776) (h1 : m = n + 4) (hi : i < 12) : m + i ≤ 1099511627776 := by omega

theorem row_room {n m i h : Nat} (hn : n + 16 ≤ 1099511627776) (h1 : m = n + 4) (hi : i < h) (hh : h ≤ 12) : (m + i + 1) * 8 ≤ 140737488355328 := by omega
theorem own_grew {w : World} {base n : Nat} {v : Value} {l : List Int} {y : Int} (hl : l.length = n) (h : w.ownsRow base 3 1 v (n + 1) (nums .i64 l ++ [.int .i64 y])) : w.ownsRow base 3 1 v (l ++ [y]).length (nums .i64 (l ++ [y])) := by
  subst hl
  rw [nums_append, List.length_append]
  exact h

theorem new_sums {sz n : Int} {kl vl : Nat} (hk : kl ≤ 1099511627776) (hv : vl ≤ 1099511627776) (hs : 0 ≤ sz ∧ sz ≤ 1099511627776) (hn : 0 ≤ n ∧ n ≤ 1099511627776) :
    wrap64 ((kl : Int) + (vl : Int)) = (kl : Int) + (vl : Int) ∧ wrap64 (sz + ((kl : Int) + (vl : Int))) = sz + ((kl : Int) + (vl : Int)) ∧ wrap64 (n + 1) = n + 1 :=
  ⟨wz (by omega) (by omega), wz (by omega) (by omega), wz (by omega) (by omega)⟩

theorem lt_next {x : Int} {L : Nat} (h : x < (L : Int)) : x < ((L + 1 : Nat) : Int) := by omega

theorem PutSt.ownAt {w W : World} {base p gr r : Nat} {vk0 vn0 V vk : Value} {mh n sz : Int} {q : Nat → Int} {cs : Array Value} {kv nd : List Int} {N : Option Addr} {m c : Nat} (hm : m = nd.length) (h : PutSt w base p gr vk0 vn0 V r mh n sz q W cs vk (.slice N m c) kv nd) (h0 : 0 < m) : ∃ g, N = some ⟨g, 0, none⟩ := by
  subst hm
  obtain ⟨g, e, _⟩ := h.T.own h0
  exact ⟨g, e⟩

theorem PutSt.rand {w W w1 : World} {base p gr r : Nat} {vk0 vn0 V vk vn : Value} {mh n sz : Int} {q : Nat → Int} {cs : Array Value} {kv nd : List Int} (h : PutSt w base p gr vk0 vn0 V r mh n sz q W cs vk vn kv nd) (hR : Rnd w1 r gr) (hg : W.grownBy w1 (some gr)) : PutSt w base p gr vk0 vn0 V r mh n sz q w1 cs vk vn kv nd :=
  have ha := h.T.away h.R
  ⟨⟨(hg.block p (blk_lt h.T.cell) (fun e => ha.gp (by injection e with e; exact e.symm))).trans h.T.cell, own_other h.T.kv hg (.inr (fun e => ha.gk e.symm)), own_other h.T.nd hg (.inr (fun e => ha.gn e.symm)), h.T.at_⟩, h.C, hR,
    h.F.then_ (Fr.of_grown (S := fun k => k = gr) hg (fun k hk => by injection hk with hk; exact hk.symm)) (fun k hk => .inl (.inr (.inl hk))), h.Q⟩

set_option maxHeartbeats 3200000 in
set_option maxRecDepth 100000 in
theorem PutNew_calls {w : World} {base p r gr mh c ck ca cb : Nat} {cs : Array Value} {V : Value} {N Kx A0 B0 : Option Addr} {n sz : Int} {q : Nat → Int} {kv nd key val : List Int} {ns P R : List Node} {f : List Int → List Int → Int}
    (hT : Tab w base p cs (.slice Kx kv.length ck) (.slice N nd.length c) kv nd) (hC : Cs cs V r 0 0 (.slice Kx kv.length ck) (.slice N nd.length c) q (mh : Int) n sz) (hS : Skip nd kv mh ns) (hl16 : nd.length + 16 ≤ 1099511627776) (hkl : kv.length ≤ 1099511627776) (hck : kv.length ≤ ck)
    (hV : Cmpr V f) (hns : ns = P ++ R) (hP : ∀ x ∈ P, f x.key key < 0) (hR : ∀ x ∈ R, 0 ≤ f x.key key) (hs : Sorted f R) (hbk : Byt key) (hbv : ∀ x ∈ ns, Byt x.key)
    (hA : Kd.C (Kd.int .u8) w A0 key.length key) (hB : Kd.C (Kd.int .u8) w B0 val.length val) (hneA : 0 < key.length → ∀ a, A0 = some a → ¬ foot p gr (.slice Kx kv.length ck) (.slice N nd.length c) a.block) (hneB : 0 < val.length → ∀ a, B0 = some a → ¬ foot p gr (.slice Kx kv.length ck) (.slice N nd.length c) a.block)
    (hr : Rnd w r gr) (hkey : key.length ≤ 1099511627776) (hval : val.length ≤ 1099511627776) (hsz : 0 ≤ sz ∧ sz ≤ 1099511627776) (hn : 0 ≤ n ∧ n ≤ 1099511627776) (hmiss : ¬ ∃ x R', R = x :: R' ∧ f x.key key = 0) :
    Calls Tryz.prog 66 #[.pointer (some ⟨p, 0, none⟩), .slice A0 key.length ca, .slice B0 val.length cb] w fun e w' => e = .returned .nilIface ∧ ∃ h, PutLeft w base p gr (.slice Kx kv.length ck) (.slice N nd.length c) V r kv nd key val (n + 1) (sz + ((key.length : Int) + (val.length : Int))) (P ++ ⟨nd.length, h, key, val⟩ :: R) w' := by
  have hl : nd.length ≤ 1099511627776 := by omega
  have HL16 := Lib.hid hl16
  clear hl16
  obtain ⟨g, rfl, hgp, hbg, hgl, hnc⟩ := hT.own (by have := hS.len; omega)
  have c2 : w.cell? ⟨p, 2, none⟩ = some (.int .i32 0) := (blk_cell hT.cell 2).trans hC.c2
  have c4 : w.cell? ⟨p, 4, none⟩ = some (.int .u32 0) := (blk_cell hT.cell 4).trans hC.c4
  have c5 : w.cell? ⟨p, 5, none⟩ = some (.int .u32 0) := (blk_cell hT.cell 5).trans hC.c5
  have c6 : w.cell? ⟨p, 6, none⟩ = some (.int .i32 0) := (blk_cell hT.cell 6).trans hC.c6
  have f2 := blk_frozen hT.cell 2
  have f6 := blk_frozen hT.cell 6
  have hT1 := (hT.set 2 (.int .i32 1)).set 6 (.int .i32 (-1073741824))
  have hC1 := (hC.set2 1).set6 (-1073741824)
  have hg1 := (grown_set w p 2 (.int .i32 1)).trans (grown_set (w.setCell ⟨p, 2, none⟩ (.int .i32 1)) p 6 (.int .i32 (-1073741824)))
  have hpA : 0 < key.length → ∀ a, A0 = some a → a.block ≠ p := fun hk a ha e => hneA hk a ha (.inl e)
  have HGE := Lib.hid (GE_calls (ca := ca) hT1 hC1 hS hl hkl hck hV hns hP hR hs hbk hbv (C_grown hA hg1 hpA) hpA)
  have HAW := Lib.hid (hT.away hr)
  have HR1 := Lib.hid ((hr.set (i := 2) HAW.out.rp HAW.out.gp (.int .i32 1)).set (i := 6) HAW.out.rp HAW.out.gp (.int .i32 (-1073741824)))
  have HG1 := Lib.hid hg1
  have HS := Lib.hid hS
  have HL := Lib.hid (And.intro hl (And.intro hkl hck))
  have HNS := Lib.hid hns
  have HN := Lib.hid (And.intro hsz (And.intro hkey hval))
  have HNN := Lib.hid hn
  have HA := Lib.hid (And.intro hA hneA)
  have HB := Lib.hid (And.intro hB hneB)
  have HMISS := Lib.hid hmiss
  have HO := Lib.hid hV.ord
  clear hT hC hS hl hkl hck hV hns hP hR hs hbk hbv hA hneA hB hneB hT1 hC1 hg1 hsz hkey hval hmiss hn hr hpA hgp hbg hgl hnc
  go_enter_defers Tryz.func66, Tryz.ntmps66
  go_wp2_with (fail)
  refine (wlock_free rwWLib p 2 _ _ _ c2 c4 c5 c6 f2 f6).mono ?_
  rintro e w' ⟨rfl, rfl⟩
  simp only [show 2 + 4 = 6 from rfl]
  generalize (w.setCell ⟨p, 2, none⟩ (.int .i32 1)).setCell ⟨p, 6, none⟩ (.int .i32 (-1073741824)) = w1 at *
  go_upto_if 31 with (go_at_call 89; (with_reducible refine HGE.out.mono ?_); rintro e w2 ⟨ex, rfl, hex, hg2, cs2, q2, hT2, hC2, hq2, _⟩)
  obtain rfl : ex = false := by cases ex with | false => rfl | true => exact absurd (hex.1 rfl) HMISS.out
  have HST := Lib.hid (show PutSt w base p gr (.slice Kx kv.length ck) (.slice (some ⟨g, 0, none⟩) nd.length c) V r (mh : Int) n sz q2 w2 cs2 (.slice Kx kv.length ck) (.slice (some ⟨g, 0, none⟩) nd.length c) kv nd from
    ⟨hT2, hC2, HR1.out.kept hg2 (fun e => HAW.out.rp (by injection e)) (fun e => HAW.out.gp (by injection e)), Fr.of_grown (HG1.out.trans hg2) (fun k hk => .inl (by injection hk with hk; exact hk.symm)), fun k hk => .inl hk⟩)
  have HQ2 := Lib.hid hq2
  have HHI := Lib.hid (Height_calls (p := p) HST.out.R (HST.out.cellP 1 HST.out.C.c1).1 (Ne.symm HAW.out.gp))
  clear hex hT2 hC2 hg2 hq2 HGE HR1 HG1
  go_upto_if 97 with (go_at_call 90; (with_reducible refine HHI.out.mono ?_); rintro e w3 ⟨h, rfl, hh1, hh12, hR3, hg3⟩; have HST3 := Lib.hid (HST.out.rand hR3 hg3); have c22 := (HST3.out.cellP 22 HST3.out.C.c22).1)
  have HH := Lib.hid (And.intro hh1 hh12)
  clear hh1 hh12 hR3 hg3 HST HHI
  have f22 := (HST3.out.cellP 22 HST3.out.C.c22).2
  go_cut [12] from 97 to 115 (fun v12 wc => Hid (∃ (cs3 : Array Value) (q3 : Nat → Int) (mh3 : Nat), PutSt w base p gr (.slice Kx kv.length ck) (.slice (some ⟨g, 0, none⟩) nd.length c) V r (mh3 : Int) n sz q3 wc cs3 (.slice Kx kv.length ck) (.slice (some ⟨g, 0, none⟩) nd.length c) kv nd ∧ h ≤ mh3 ∧ mh ≤ mh3 ∧ mh3 ≤ 12 ∧ ∀ i, i < h → q3 i = ((prv i P : Nat) : Int)))
  case first =>
    by_cases hm : mh < h
    · have z0 : decide (mh < h) = true := decide_eq_true hm
      simp only [z0]
      have HM := Lib.hid hm
      clear hm
      go_wp2
      go_loopg [12] h (fun k v12 w' => ∃ (i : Nat) (cs3 : Array Value) (q3 : Nat → Int), v12 = .int .i64 (i : Int) ∧ Hid (mh ≤ i ∧ i ≤ h ∧ h ≤ i + k) ∧ Hid (PutSt w base p gr (.slice Kx kv.length ck) (.slice (some ⟨g, 0, none⟩) nd.length c) V r (mh : Int) n sz q3 w' cs3 (.slice Kx kv.length ck) (.slice (some ⟨g, 0, none⟩) nd.length c) kv nd) ∧ Hid (∀ j, j < i → q3 j = ((prv j P : Nat) : Int)))
      case atStart => exact ⟨mh, cs2, q2, rfl, Lib.hid ⟨Nat.le_refl _, Nat.le_of_lt HM.out, by omega⟩, HST3, HQ2⟩
      case round =>
        obtain ⟨i, cs3, q3, rfl, HI, HS3, HQ3⟩ := hrel
        by_cases hi : i < h
        · have y0 : decide ((i : Int) < (h : Int)) = true := decide_eq_true (by omega)
          have hi12 : i < 12 := Nat.lt_of_lt_of_le hi HH.out.2
          have e10 := HS3.out.cellP (10 + i) (HS3.out.C.cq i hi12)
          have h12 : (i : Int) < 12 := by omega
          have hi0 : (0 : Int) ≤ (i : Int) := Int.natCast_nonneg _
          have ei : ((i : Int)).toNat = i := Int.toNat_natCast _
          have w1 : wrap64 ((i : Int) + 1) = (i : Int) + 1 := next_idx hi HH.out.2
          have HS4 := Lib.hid (HS3.out.sq hi12 0)
          have hz : prv i P = 0 := prv_none i P (fun x hx => by have h1 := (HS.out.ok x (by rw [HNS.out]; exact List.mem_append_left _ hx)).hm; have := HI.out.1; omega)
          have HQ4 : Hid (∀ j, j < i + 1 → (fun j => if j = i then (0 : Int) else q3 j) j = ((prv j P : Nat) : Int)) := Lib.hid fun j hj => by
            by_cases e : j = i
            · subst e
              simp only [if_pos]
              rw [hz]
              rfl
            · simp only [if_neg e]
              exact HQ3.out j (by omega)
          have HII := Lib.hid (And.intro hi (And.intro HI.out.1 HI.out.2.2))
          clear hz hi12 HS3 c22 f22 HST3
          go_wp2
          go_roundg (gk - 1)
          case measure => exact round_less HII.out.1 HII.out.2.2
          case rel => exact ⟨i + 1, _, _, (by first | rfl | exact congrArg _ w1), Lib.hid ⟨by have := HII.out.2.1; omega, (round_next HII.out.1 HII.out.2.2).1, (round_next HII.out.1 HII.out.2.2).2⟩, HS4, HQ4⟩
        · have y0 : decide ((i : Int) < (h : Int)) = false := decide_eq_false (by omega)
          have e22 := (HS3.out.cellP 22 HS3.out.C.c22).1
          have k22 := (HS3.out.cellP 22 HS3.out.C.c22).2
          have hih : i = h := by have := HI.out.2.1; omega
          have HS4 := Lib.hid (HS3.out.s22 (h : Int))
          have HIH := Lib.hid hih
          clear hih c22 f22 HST3
          go_wp2
          go_meet
          case rel => exact Lib.hid ⟨_, _, h, HS4.out, Nat.le_refl _, Nat.le_of_lt HM.out, HH.out.2, fun j hj => HQ3.out j (by rw [HIH.out]; exact hj)⟩
    · have z0 : decide (mh < h) = false := decide_eq_false hm
      simp only [z0]
      have HM := Lib.hid hm
      clear hm
      go_wp2
      go_meet
      case rel => exact Lib.hid ⟨cs2, q2, mh, HST3.out, by have := HM.out; omega, Nat.le_refl _, HS.out.m12, fun i hi => HQ2.out i (by have := HM.out; omega)⟩
  case rest =>
    obtain ⟨cs3, q3, mh3, hst4, hhm, hmm, hm12, hq3⟩ := hcut.out
    have HST4 := Lib.hid hst4
    have HMH := Lib.hid (And.intro hhm (And.intro hmm (And.intro hm12 hq3)))
    clear hst4 hhm hmm hm12 hq3 hcut HST3 c22 f22 HQ2
    -- the key is appended
    have d8 := (HST4.out.cellP 8 HST4.out.C.c8).1
    have HCA := Lib.hid (HST4.out.F.C HA.out.1 HA.out.2)
    generalize hkv3 : kv ++ key = kv3
    have HK3 := Lib.hid hkv3
    have HROOM := Lib.hid (two_len HL.out.2.1 HN.out.2.1)
    clear hkv3
    go_upto_region 22 with (at_builtin; go_loud (refine print_append_row base rfl (.tmp 125) (.tmp 126) 25 5 .u8 1 rfl Tryz.underlying25 info_u8 (by decide) _ kv key _ _ _ rfl rfl HST4.out.T.kv (C_ints HCA.out) (Below.refl _ _) HST4.out.T.room HROOM.out ?_); rw [HK3.out]; intro v5 w5 ho5 hb5 hg5 hat5; obtain ⟨K3, ck3, rfl⟩ := own_slice ho5; (have hG5 := (HST4.out.T.grewKv ho5 hg5).1); have k8 := (blk_cell hG5 8).trans HST4.out.C.c8; have kf8 := blk_frozen hG5 8)
    have HST5 := Lib.hid (HST4.out.kvs ho5 hg5 hat5)
    clear ho5 hb5 hg5 hat5 hG5 k8 kf8 d8 HST4 HCA HROOM
    generalize w5.setCell ⟨p, 8, none⟩ (.slice K3 kv3.length ck3) = w6 at *
    -- the value is appended
    have d8 := (HST5.out.cellP 8 HST5.out.C.c8).1
    have HCB := Lib.hid (HST5.out.F.C HB.out.1 HB.out.2)
    generalize hkv4 : kv3 ++ val = kv4
    have HK4 := Lib.hid hkv4
    have HROOM := Lib.hid (three_len HK3.out HL.out.2.1 HN.out.2.1 HN.out.2.2)
    clear hkv4
    go_upto_region 23 with (at_builtin; go_loud (refine print_append_row base rfl (.tmp 134) (.tmp 135) 25 5 .u8 1 rfl Tryz.underlying25 info_u8 (by decide) _ kv3 val _ _ _ rfl rfl HST5.out.T.kv (C_ints HCB.out) (Below.refl _ _) HST5.out.T.room HROOM.out ?_); rw [HK4.out]; intro v7 w7 ho7 hb7 hg7 hat7; obtain ⟨K4, ck4, rfl⟩ := own_slice ho7; (have hG7 := (HST5.out.T.grewKv ho7 hg7).1); have k8 := (blk_cell hG7 8).trans HST5.out.C.c8; have kf8 := blk_frozen hG7 8)
    have HST6 := Lib.hid (HST5.out.kvs ho7 hg7 hat7)
    have HCK := Lib.hid (own_cap ho7)
    clear ho7 hb7 hg7 hat7 hG7 k8 kf8 d8 HST5 HCB HROOM
    generalize w7.setCell ⟨p, 8, none⟩ (.slice K4 kv4.length ck4) = w8 at *
    -- the node's four numbers
    have d9 := (HST6.out.cellP 9 HST6.out.C.c9).1
    have HST7 := Lib.hid (HST6.out.below (below_alloc (Below.refl _ _) (.cells #[.int .i64 (kv.length : Int), .int .i64 (key.length : Int), .int .i64 (val.length : Int), .int .i64 (h : Int)] 3)))
    have HLIT := Lib.hid (lit_reads w8 [(kv.length : Int), (key.length : Int), (val.length : Int), (h : Int)] (by simp))
    generalize hnd1 : nd ++ [(kv.length : Int), (key.length : Int), (val.length : Int), (h : Int)] = nd1
    have HND1 := Lib.hid hnd1
    have HROOM := Lib.hid (four_len HL.out.1)
    clear hnd1
    go_upto_region 25 with (at_builtin; go_loud (refine print_append_row base rfl (.tmp 148) (.tmp 155) 174 3 .i64 8 rfl Tryz.underlying174 info_int (by decide) _ nd [(kv.length : Int), (key.length : Int), (val.length : Int), (h : Int)] _ _ _ rfl rfl HST7.out.T.nd HLIT.out (Below.refl _ _) HST7.out.T.room HROOM.out ?_); rw [HND1.out]; intro v9 w9 ho9 hb9 hg9 hat9; obtain ⟨N4, cn4, rfl⟩ := own_slice ho9; (have hG9 := (HST7.out.T.grewNd ho9 hg9).1); have k9 := (blk_cell hG9 9).trans HST7.out.C.c9; have kf9 := blk_frozen hG9 9)
    have hST8 := HST7.out.nds ho9 hg9 hat9
    have hl1 : nd1.length = nd.length + 4 := by rw [← HND1.out, List.length_append]; rfl
    obtain ⟨g4, rfl, _, _, _, _⟩ := hST8.T.own (by omega)
    have HST8 := Lib.hid hST8
    have HL1 := Lib.hid hl1
    clear ho9 hb9 hg9 hat9 hG9 k9 kf9 d9 HST6 HST7 HLIT HROOM hST8 hl1
    generalize w9.setCell ⟨p, 9, none⟩ (.slice (some ⟨g4, 0, none⟩) nd1.length cn4) = w10 at *
    have h12 : (h : Int) ≤ 12 := by have := HH.out.2; omega
    have h0 : (0 : Int) ≤ (h : Int) := Int.natCast_nonneg _
    have eh : ((h : Int)).toNat = h := Int.toNat_natCast _
    go_wp2_with (fail)
    go_loopg [165] h (fun k v165 w' => ∃ (i : Nat) (cs4 : Array Value) (g5 c5 : Nat), v165 = .int .i64 (i : Int) ∧ Hid (i ≤ h ∧ h ≤ i + k) ∧ Hid (PutSt w base p gr (.slice Kx kv.length ck) (.slice (some ⟨g, 0, none⟩) nd.length c) V r (mh3 : Int) n sz q3 w' cs4 (.slice K4 kv4.length ck4) (.slice (some ⟨g5, 0, none⟩) (nd1.length + i) c5) kv4 (putN nd.length P i nd1)))
    case atStart => exact ⟨0, _, g4, cn4, rfl, Lib.hid ⟨by omega, by omega⟩, HST8⟩
    case round =>
      obtain ⟨i, cs4, g5, c5, rfl, HI, HS5⟩ := hrel
      have hlen : (putN nd.length P i nd1).length = nd1.length + i := putN_len _ _ _ _
      by_cases hi : i < h
      · have hi12 : i < 12 := Nat.lt_of_lt_of_le hi HH.out.2
        have e10 := (HS5.out.cellP (10 + i) (HS5.out.C.cq i hi12)).1
        rw [HMH.out.2.2.2 i hi] at e10
        have hsl := HS.out.slot HNS.out hi12
        have hsl2 : prv i P + 4 + i < nd1.length + i := by have := HL1.out; omega
        have m1 := HS5.out.read hlen.symm hsl2
        have c9 := (HS5.out.cellP 9 HS5.out.C.c9).1
        have HROOM := Lib.hid (row_room HL16.out HL1.out hi HH.out.2)
        have hrs := row_small HL16.out HL1.out hi12
        generalize hLL : nd1.length + i = L at *
        have HLL := Lib.hid hLL
        have HSUM := Lib.hid (link_sums hsl2 hrs)
        clear hLL hrs
        have HLEN := Lib.hid hlen
        have HII := Lib.hid (And.intro hi (And.intro HI.out.2 hsl2))
        obtain ⟨s1, s2, s3, s4, s5, _, _⟩ := HSUM.out
        clear hsl hsl2 hi12 hlen HST8 m1
        generalize hpa : prv i P = a at *
        have HPA := Lib.hid hpa
        clear hpa
        go_upto_region 29 with (fail)
        have hm1 := (HS5.out.read HLEN.out.symm HII.out.2.2).1
        generalize hy : G (putN nd.length P i nd1) (a + 4 + i) = y at hm1
        have HY := Lib.hid hy
        have HSD := Lib.hid (HS5.out.below (below_drew (Below.refl _ _)))
        have HOWN : Hid (wr.drew.ownsRow base 3 1 (.slice (some ⟨g5, 0, none⟩) L c5) L (nums .i64 (putN nd.length P i nd1))) := by
          have h := HSD.out.T.nd
          rw [HLEN.out] at h
          exact Lib.hid h
        have c9a : (wr.alloc (.cells #[.int .i64 y] 3)).cell? ⟨p, 9, none⟩ = some (.slice (some ⟨g5, 0, none⟩) L c5) := pw_cell_below (below_alloc (Below.refl _ _) _) c9
        clear hy
        refine wp_region_noPanic ?_
        go_region_law
          (refine step_append_cells (W := wr.drew) (w0 := wr.drew) base rfl (.tmp 178) (.tmp 186) 174 3 (.int .i64 0) 1 8 rfl Tryz.underlying174 info_int rfl (by decide) (by decide) (.slice (some ⟨g5, 0, none⟩) L c5) L (nums .i64 (putN nd.length P i nd1)) [.int .i64 y] rfl rfl rfl (by simp [Value.oneCell']) HOWN.out (Below.refl _ _) HSD.out.T.room HROOM.out ?_; intro v11 w11 ho11 hb11 hg11 hat11; obtain ⟨N5, cn5, rfl⟩ := own_slice ho11; have ho11' := own_grew HLEN.out ho11; have hG11 := (HSD.out.T.grewNd ho11' hg11).1; have k9 := (blk_cell hG11 9).trans HSD.out.C.c9; have kf9 := blk_frozen hG11 9)
        all_goals refine NoPanic.normal ?_
        all_goals
          have HST9 := Lib.hid (HSD.out.nds ho11' hg11 hat11)
          clear ho11 ho11' hb11 hg11 hat11 hG11 k9 kf9 HS5 HSD HOWN c9 c9a hm1
          generalize w11.setCell ⟨p, 9, none⟩ (.slice N5 (L + 1) cn5) = w12 at *
          have hll : L + 1 = (putN nd.length P i nd1 ++ [y]).length := by rw [List.length_append, HLEN.out]; rfl
          obtain ⟨g6, rfl⟩ := HST9.out.ownAt hll (Nat.succ_pos L)
          have c9 := (HST9.out.cellP 9 HST9.out.C.c9).1
          have m2 := HST9.out.read hll (i := a + 4 + i) (Nat.lt_succ_of_lt HII.out.2.2)
          have m2a := m2.1
          have m2f := m2.2
          have HST10 := Lib.hid (HST9.out.num' hll (a + 4 + i) (nd.length : Int))
          have s6 : (a : Int) + 4 + (i : Int) < ((L + 1 : Nat) : Int) := lt_next s1
          have HL2 := Lib.hid (show L + 1 = nd1.length + (i + 1) by rw [← HLL.out]; rfl)
          have w1 : wrap64 ((i : Int) + 1) = (i : Int) + 1 := next_idx HII.out.1 HH.out.2
          clear m2 hll HST9 s1 s4 s5 hi e10
          generalize L + 1 = L2 at *
          go_wp2
          go_roundg (gk - 1)
          case measure => exact round_less HII.out.1 HII.out.2.1
          case rel =>
            have h := HST10.out
            have hpa := HPA.out
            have hyy := HY.out
            subst hpa
            rw [HL2.out, ← hyy] at h
            exact ⟨i + 1, _, g6, cn5, (by first | rfl | exact congrArg _ w1), Lib.hid (round_next HII.out.1 HII.out.2.1), Lib.hid h⟩
      · have hih : i = h := by have := HI.out.1; omega
        have e24 := (HS5.out.cellP 24 HS5.out.C.c24).1
        have k24 := (HS5.out.cellP 24 HS5.out.C.c24).2
        have HST6 := Lib.hid (HS5.out.s24 (sz + ((key.length : Int) + (val.length : Int))))
        have e23 := (HST6.out.cellP 23 HST6.out.C.c23).1
        have k23 := (HST6.out.cellP 23 HST6.out.C.c23).2
        have HST7 := Lib.hid (HST6.out.s23 (n + 1))
        obtain ⟨u1, u2, u3⟩ := new_sums (kl := key.length) (vl := val.length) HN.out.2.1 HN.out.2.2 HN.out.1 HNN.out
        have HIH := Lib.hid hih
        have HLEN := Lib.hid hlen
        clear hih hlen HST8 HS5
        go_wp2_with (fail)
        refine leaves_cons (f := 88) (args := #[.pointer (some ⟨p, 2, none⟩)]) (by simp) (by simp [go_sem]) ?_
        have l2 := HST7.out.cellP 2 HST7.out.C.c2
        have l6 := HST7.out.cellP 6 HST7.out.C.c6
        refine (wunlock_deferred rwWLib p 2 (.int .u32 0) (.int .u32 0) .returning _ l2.1 (HST7.out.cellP 4 HST7.out.C.c4).1 (HST7.out.cellP 5 HST7.out.C.c5).1 l6.1 l2.2 l6.2).mono ?_
        rintro e u' w'' ⟨rfl, rfl, rfl⟩
        have hsk := skip_put HS.out HNS.out key val h mh3 HH.out.1 HH.out.2 HMH.out.1 HMH.out.2.1 HMH.out.2.2.1
        rw [HND1.out, ← List.append_assoc, HK3.out, HK4.out] at hsk
        have hlk : kv4.length = kv.length + key.length + val.length := by rw [← HK4.out, ← HK3.out, List.length_append, List.length_append]
        have h7 := HST7.out
        have hle := HLEN.out
        rw [HIH.out] at h7 hle
        refine ⟨_, results_tmp rfl _ _ _, rfl, h, ?_⟩
        refine PutSt.left' hle.symm h7 hsk (Nat.le_of_eq hlk) ?_ HCK.out
        rw [hle]
        have := HL1.out
        have := HH.out.2
        omega

end Go.Proofs.YtdkkkikcigjlhaaGreatDoor.Md
