/- impl's IndexedWalk. The law FnIndexedWalk, walked: it answers true, whatever the input. FnIndexedWalk's walk, from arguments that are read as data. -/
import Derived.Test.YtdkkkikcigjlhaaGreatDoorMi31
import Derived.Test.YtdkkkikcigjlhaaGreatDoorMi26
import Derived.Test.YtdkkkikcigjlhaaGreatDoorMi19
set_option linter.unusedVariables false
set_option linter.unusedSimpArgs false
namespace Go.Proofs.YtdkkkikcigjlhaaGreatDoor.Md
open Go.RowKit Go.Proofs.YtdkkkikcigjlhaaGreatDoor.Con Go.Proofs.YtdkkkikcigjlhaaGreatDoor.Run Go.Proofs.YtdkkkikcigjlhaaGreatDoorW.PrintWords Go.Proofs.YtdkkkikcigjlhaaGreatDoorW.PrintMore Go.Proofs.YtdkkkikcigjlhaaGreatDoor.Cmp Go.Sort Go.RwLone Go.Proofs.YtdkkkikcigjlhaaGreatDoor.PFnMemMap

set_option maxHeartbeats 1600000 in
theorem NewArrayIndexer_calls (I : Value) (T : Nat) (u : Value) (w : World) (hI : I = .iface T u) :
    Calls Tryz.prog 70 #[I] w fun e w' => e = .returned (.iface 203 (.pointer (some ⟨w.heap.size, 0, none⟩))) ∧ w' = w.alloc (.cells (idCells I (-1)) 205) := by
  subst hI
  go_enter Tryz.func70, Tryz.ntmps70
  go_wp2
  go_ret
  exact ⟨rfl, rfl⟩

set_option maxHeartbeats 1600000 in
theorem NewIndexedIterator_calls (b : Nat) (w : World) :
    Calls Tryz.prog 69 #[.iface 203 (.pointer (some ⟨b, 0, none⟩)), .bool true] w fun e w' => e = .returned (.iface 198 (.pointer (some ⟨w.heap.size, 0, none⟩))) ∧ w' = w.alloc (.cells (ixCells b .nilIface) 200) := by
  go_enter Tryz.func69, Tryz.ntmps69
  go_wp2
  go_ret
  exact ⟨rfl, rfl⟩

theorem info_KV : (Tryz.prog.info? 44).map (fun i => (i.zero, i.size, i.bytes)) = some (some (.agg #[.slice none 0 0, .slice none 0 0]), 2, 48) := by kernel_rfl
theorem info_KVs : (Tryz.prog.info? 38).map (fun i => (i.zero, i.size, i.bytes)) = some (some (.slice none 0 0), 1, 24) := by kernel_rfl

theorem IxSt.fresh {V : Value} {LL : List (List S44)} {A : Option Addr} {n c : Nat} {ok : Nat → Prop} {w : World} (h : Kd.F kLL w ok A n LL) (hok : ∀ k, ok k → k < w.heap.size) {w2 : World}
    (hw : w2 = (w.alloc (.cells (idCells (lsI V A n c) (-1)) 205)).alloc (.cells (ixCells w.heap.size .nilIface) 200)) :
    IxSt V LL A n c (w.heap.size + 1) w.heap.size ok w2 (-1) (fun k => k = w.heap.size + 1 ∨ k = w.heap.size ∨ ok k) ∧ Below w.heap.size w w2 := by
  subst hw
  obtain ⟨h1, h2, h3⟩ := two_new2 w (idCells (lsI V A n c) (-1)) (ixCells w.heap.size .nilIface) 205 200
  refine ⟨⟨.nilIface, ⟨-1, ⟨h2, h1, Kd.F_below h h3, ⟨by omega, by omega⟩, by omega, fun k hk => ?_⟩, .inr ⟨rfl, .inl rfl, fun _ => ⟨fun _ => rfl, fun e => by omega⟩, fun _ => .inl rfl⟩⟩, fun k => ⟨fun hk => ?_, fun hk => ?_⟩⟩, h3⟩
  · have := hok k hk
    exact ⟨by omega, by omega, Nat.lt_of_lt_of_le this h3.size⟩
  · rcases hk with hk | hk | hk
    · exact .inl hk
    · exact .inr (.inl hk)
    · exact .inr (.inr (.inl hk))
  · rcases hk with hk | hk | hk | hk
    · exact .inl hk
    · exact .inr (.inl hk)
    · exact .inr (.inr hk)
    · exact hk.nil.elim

theorem flat_take {LL : List (List S44)} {j : Nat} (h : j < LL.length) {x : List S44} (hx : LL.getD j [] = x) : LL.take (j + 1) = LL.take j ++ [x] ∧ (LL.take (j + 1)).flatten = (LL.take j).flatten ++ x := by
  have e : LL.take (j + 1) = LL.take j ++ [x] := by
    rw [← hx]
    exact sp_take h []
  refine ⟨e, ?_⟩
  rw [e, List.flatten_append]
  simp

theorem off_in_le (LL : List (List S44)) (j : Nat) (h : j < LL.length) : (LL.take j).flatten.length + (LL.getD j []).length ≤ LL.flatten.length := by
  have h1 := off_succ LL j h
  have h2 := off_le LL (j + 1)
  unfold offL at h1 h2
  omega

def IwTold (f : List Int → List Int → Int) (LL : List (List S44)) (ms : List S104) (w : World) (e : Ending) (w' : World) : Prop := AwTold f LL.flatten ms w e w'

set_option maxHeartbeats 6400000 in
set_option maxRecDepth 100000 in
theorem IndexedWalk_calls {w : World} {o : Int} {ok okm : Nat → Prop} {A Am : Option Addr} {c cm n : Nat} {LL : List (List S44)} {ms : List S104} {f : List Int → List Int → Int}
    (hV : Cmpr (ordV o) f) (hn : LL.length = n) (hA : Kd.F kLL w ok A n LL) (hc : n ≤ c) (hok : ∀ k, ok k → k < w.heap.size) (hb : ∀ l ∈ LL, ∀ x ∈ l, Byt x.f0) (hl : n ≤ 1048576) (hfl : LL.flatten.length ≤ 1048576) (hx : ∀ l ∈ LL, l.length ≤ 1048576 ∧ ∀ x ∈ l, x.f0.length ≤ 4294967296 ∧ x.f1.length ≤ 4294967296)
    (hM : Kd.F k104 w okm Am ms.length ms) (hbM : ∀ m ∈ ms, Byt m.f1) (hokm : ∀ k, okm k → ¬ w.heap.size ≤ k) (hlM : ms.length ≤ 4294967296) :
    Calls Tryz.prog 37 #[.int .i64 o, .slice A n c, .slice Am ms.length cm] w fun e w' => IwTold f LL ms w e w' := by
  obtain ⟨T, hT⟩ : ∃ T, ordV o = .iface T (.agg #[]) := by
    unfold ordV
    split
    · exact ⟨_, rfl⟩
    · split
      · exact ⟨_, rfl⟩
      · exact ⟨_, rfl⟩
  have HT := Lib.hid hT
  rw [hT] at hV
  have HV := Lib.hid hV
  clear hT
  have HA := Lib.hid (And.intro hA (And.intro hok (And.intro hb (And.intro hl (And.intro hfl hx)))))
  have HM := Lib.hid (And.intro hM (And.intro hbM (And.intro hokm hlM)))
  have HN := Lib.hid hn
  clear hV hA hc hok hb hl hx hM hbM hokm hlM hn hfl
  go_enter Tryz.func37, Tryz.ntmps37
  go_wp2_with (go_at_call 58; (with_reducible refine (orderOf_calls _ _).mono ?_); rintro e w1 ⟨rfl, rfl⟩; rw [HT.out])
  go_loopg [9, 10, 17] n (fun k v9 v10 v17 w' => ∃ j : Nat, v17 = .int .i64 (j : Int) ∧ Hid (j ≤ n ∧ n ≤ j + k) ∧ Hid (Kd.N kLL 38 w' w.heap.size (fun k => w.heap.size ≤ k ∧ some k ≠ v9.ownBlock) v10 (LL.take j)) ∧ Hid (Kd.N k44 44 w' w.heap.size (fun k => (ok k ∨ w.heap.size ≤ k) ∧ some k ≠ v10.ownBlock) v9 (LL.take j).flatten) ∧ Hid (Below w.heap.size w w'))
  case atStart => exact ⟨0, rfl, Lib.hid ⟨Nat.zero_le _, by omega⟩, Lib.hid (Kd.N_nil _ _ _ _ _), Lib.hid (Kd.N_nil _ _ _ _ _), Lib.hid (Below.refl _ _)⟩
  case round =>
    obtain ⟨j, rfl, HJ, HOW, HAL, HBL⟩ := hrel
    by_cases hj : j < n
    · have hFr : Kd.F kLL wr ok A n LL := Kd.F_below HA.out.1 HBL.out
      obtain ⟨ad, A1, c1, rfl, r0, hl1, hF1⟩ := LL_at hFr hj rfl
      have hmem : LL.getD j [] ∈ LL := by
        rw [List.getD_eq_getElem?_getD, List.getElem?_eq_getElem (by rw [HN.out]; exact hj)]
        exact List.getElem_mem _
      have hxs := HA.out.2.2.2.2.2 _ hmem
      have HTK := Lib.hid (flat_take (LL := LL) (j := j) (by rw [HN.out]; exact hj) rfl)
      have hcnt : (LL.take j).flatten.length ≤ LL.flatten.length := off_le LL j
      have hcnt2 : (LL.take j).length = j := by rw [List.length_take, HN.out]; omega
      have htot := off_in_le LL j (by rw [HN.out]; exact hj)
      generalize LL.getD j [] = x at *
      have HX := Lib.hid (And.intro hxs (And.intro hl1 hF1))
      have HCN := Lib.hid (show (LL.take j).flatten.length + x.length ≤ 1048576 ∧ (LL.take j).length = j ∧ j < n ∧ n ≤ 1048576 from ⟨by have := HA.out.2.2.2.2.1; omega, hcnt2, hj, HA.out.2.2.2.1⟩)
      have z0 : decide ((j : Int) < (n : Int)) = true := decide_eq_true (by omega)
      have z2 : (j : Int) < (n : Int) := by omega
      have HJL := Lib.hid (And.intro hj HJ.out.2)
      have w1' : wrap64 ((j : Int) + 1) = (j : Int) + 1 := wz (by omega) (by have := HA.out.2.2.2.1; omega)
      clear hFr hmem hxs hcnt hcnt2 htot hl1 hF1
      go_upto_region 8 with (first
        | (go_at_call 60; (with_reducible refine (copied_calls (Kd.F_now HX.out.2.2) HX.out.2.1 (by have := HX.out.1.1; omega) HX.out.1.2).mono ?_); rintro e w2 ⟨A3, c3, rfl, hc3, hF3, hb3⟩; have HF3 := Lib.hid hF3; have HB3 := Lib.hid hb3; have HBL2 := Lib.hid (HBL.out.trans (hb3.mono HBL.out.size)); have HOW2 := Lib.hid (Kd.N_below HOW.out hb3); have HAL2 := Lib.hid (Kd.N_below HAL.out hb3); have HX2 := Lib.hid (Kd.F_below HX.out.2.2 hb3); clear hF3)
        | (at_builtin; go_loud (refine Kd.N_append kLL w.heap.size rfl (.tmp 21) (.tmp 24) 50 38 (.slice none 0 0) 24 rfl Tryz.underlying50 info_KVs rfl (by decide) (by decide) _ _ _ _ (fun k => w.heap.size ≤ k ∧ some k ≠ Value.ownBlock u9) (fun k => wr.heap.size ≤ k ∧ k < w2.heap.size) rfl rfl (Kd.FK_slice_mk hc3 HF3.out) (fun k hk => ⟨⟨Nat.le_trans HBL.out.size hk.1, fun e => by have := Kd.N_lt HAL.out k e.symm; omega⟩, fun e => by have := Kd.N_lt HOW.out k e.symm; omega⟩) (fun k hk => ⟨Nat.le_trans HBL2.out.size hk, fun e => by have := Kd.N_lt HAL2.out k e.symm; omega⟩) HOW2.out HBL2.out HBL2.out.size (by have := HCN.out; omega) ?_); intro v3 w3 hn3 hb4 hg3 hat3))
      have HN3 := Lib.hid hn3
      have HB4 := Lib.hid hb4
      have HAL3 := Lib.hid (Kd.N_after HAL2.out hg3 hat3)
      have HX3 := Lib.hid (Kd.F_step HX2.out (fun k hk hlt => hg3.block k hlt (fun e => by have h1 := Kd.N_base HOW.out k e.symm; have h2 := HA.out.2.1 k hk; omega)))
      have HSZ3 := Lib.hid (show w2.heap.size ≤ w3.heap.size from hg3.size)
      clear hn3 hb4 hg3 hat3 hb3 hc3
      go_wp2_with (at_builtin; go_loud (refine Kd.N_append_rows k44 w.heap.size rfl (.tmp 26) (.tmp 27) 38 44 (.agg #[.slice none 0 0, .slice none 0 0]) 48 rfl Tryz.underlying38 info_KV rfl (by decide) (by decide) _ _ _ _ _ _ (fun k => (ok k ∨ w.heap.size ≤ k) ∧ some k ≠ v3.ownBlock) ok rfl rfl HAL3.out HX3.out (fun k hk => ⟨⟨.inl hk, fun e => by have h1 := Kd.N_base HN3.out k e.symm; have h2 := HA.out.2.1 k hk; omega⟩, fun e => by have h1 := Kd.N_base HAL3.out k e.symm; have h2 := HA.out.2.1 k hk; omega⟩) (fun k hk => ⟨.inr (Nat.le_trans HB4.out.size hk), fun e => by have h1 := Kd.N_lt HN3.out k e.symm; omega⟩) HB4.out HB4.out.size (by have := HCN.out; omega) ?_); intro v4 w4 hn4 hb5 hg4 hat4)
      have HN4 := Lib.hid hn4
      have HB5 := Lib.hid hb5
      have HOW4 := Lib.hid (Kd.N_after HN3.out hg4 hat4)
      clear hn4 hb5 hg4 hat4
      go_roundg (gk - 1)
      case measure => exact round_less HJL.out.1 HJL.out.2
      case rel => exact ⟨j + 1, (by first | rfl | exact congrArg _ w1'), Lib.hid (round_next HJL.out.1 HJL.out.2), Lib.hid (by rw [HTK.out.1]; exact HOW4.out), Lib.hid (by rw [HTK.out.2]; exact HN4.out), HB5⟩
    · have z0 : decide ((j : Int) < (n : Int)) = false := decide_eq_false (by omega)
      have z2 : ¬ (j : Int) < (n : Int) := by omega
      have hjn : j = n := by have := HJ.out.1; omega
      have ht : LL.take j = LL := by rw [hjn, ← HN.out, List.take_length]
      rw [ht] at HOW HAL
      obtain ⟨A9, c9, rfl⟩ := Kd.N_slice HAL.out
      obtain ⟨A10, c10, rfl⟩ := Kd.N_slice HOW.out
      rw [HN.out] at HOW HAL ⊢
      have HALF := Lib.hid (And.intro (Kd.N_F HAL.out) (Kd.N_reads' HAL.out).2.1)
      have HOWF := Lib.hid (Kd.F_bound (Kd.N_F HOW.out))
      have HBY := Lib.hid (show ∀ x ∈ LL.flatten, Byt x.f0 from fun x hx => by
        obtain ⟨l, hl, hxl⟩ := List.mem_flatten.1 hx
        exact HA.out.2.2.1 l hl x hxl)
      have HSZ := Lib.hid (show ∀ x ∈ LL.flatten, x.f0.length ≤ 4294967296 ∧ x.f1.length ≤ 4294967296 from fun x hx => by
        obtain ⟨l, hl, hxl⟩ := List.mem_flatten.1 hx
        exact (HA.out.2.2.2.2.2 l hl).2 x hxl)
      clear ht hjn
      generalize hnf : LL.flatten.length = nf at *
      have HNF := Lib.hid hnf
      clear hnf
      cases hr : risesL f (kvS LL.flatten) with
      | false =>
        have HR := Lib.hid hr
        clear hr
        go_wp2_with (go_at_call 59; (with_reducible refine (rising_calls HV.out HNF.out (by have := HA.out.2.2.2.2.1; omega) HALF.out.1 HBY.out).mono ?_); rintro e w2 ⟨rfl, hb2⟩; rw [HR.out])
        go_ret2
        exact ⟨HBL.out.trans (hb2.mono HBL.out.size), .inr ⟨HR.out, rfl⟩⟩
      | true =>
        have HR := Lib.hid hr
        clear hr
        go_wp2_with (first
          | (go_at_call 59; (with_reducible refine (rising_calls HV.out HNF.out (by have := HA.out.2.2.2.2.1; omega) HALF.out.1 HBY.out).mono ?_); rintro e w2 ⟨rfl, hb2⟩; rw [HR.out]; have HB2 := Lib.hid hb2)
          | (go_at_call 70; (with_reducible refine (NewArrayIndexer_calls _ _ _ _ rfl).mono ?_); rintro e w3 ⟨rfl, he3⟩)
          | (go_at_call 69; (with_reducible refine (NewIndexedIterator_calls _ _).mono ?_); rintro e w4 ⟨rfl, he4⟩))
        have hst := IxSt.fresh (V := .iface T (.agg #[])) (c := c10) (Kd.F_below HOWF.out HB2.out) (fun k hk => Nat.lt_of_lt_of_le hk.2 HB2.out.size) rfl
        have HST := Lib.hid hst.1
        have HBW := Lib.hid hst.2
        have HB4 := Lib.hid ((HBL.out.trans (HB2.out.mono HBL.out.size)).trans (hst.2.mono (Nat.le_trans HBL.out.size HB2.out.size)))
        have HW2 := Lib.hid (Nat.le_trans HBL.out.size HB2.out.size)
        have HIT := Lib.hid (show ∀ l ∈ LL, l.length ≤ 4294967296 ∧ ∀ x ∈ l, Byt x.f0 from fun l hl => ⟨by have := (HA.out.2.2.2.2.2 l hl).1; omega, HA.out.2.2.1 l hl⟩)
        have HUP := Lib.hid (up_parts LL (rises_up HV.out.ord _ HR.out))
        simp only [lsI, arrV] at HST HBW HB4
        clear hst
        generalize (w2.alloc (.cells (idCells (.iface 133 (.agg #[.iface T (.agg #[]), .slice A10 n c10])) (-1)) 205)).alloc (.cells (ixCells w2.heap.size .nilIface) 200) = w4 at *
        refine (walk_calls (ix_iter HV.out HN.out (by have := HA.out.2.2.2.1; omega) HIT.out HUP.out) HST.out (Kd.F_below HM.out.1 HB4.out) HM.out.2.1 (fun k hk _ q => by
          have h1 := HM.out.2.2.1 k hk
          have h2 := HW2.out
          rcases q with q | q | q
          · omega
          · omega
          · exact h1 q.1.1) (fun k hk => by have := HM.out.2.2.1 k hk; have := HB4.out.size; omega) (kvS_all HSZ.out) HM.out.2.2.2).mono ?_
        rintro e w5 ⟨v, F', rfl, hN, hMv⟩
        go_wp2
        go_ret2
        refine ⟨?_, .inl ⟨HR.out, v, rfl, ?_⟩⟩
        · exact below_fr HB4.out HB4.out.size hMv.fr (fun k hk => by
            have h2 := HW2.out
            rcases hk with hk | hk | hk
            · omega
            · omega
            · exact hk.1.1)
        · exact N_low (Kd.N_mono hN (ok' := fun k => w.heap.size ≤ k) (fun k hk => Nat.le_trans HB4.out.size hk.1)) HB4.out.size

def FitL (l : List S44) : Prop := l.length ≤ 2147483647 ∧ ∀ x ∈ l, x.f0.length ≤ 2147483647 ∧ x.f1.length ≤ 2147483647

set_option maxHeartbeats 3200000 in
set_option maxRecDepth 100000 in
theorem fits27_calls {w : World} {ok : Nat → Prop} {A : Option Addr} {n c : Nat} {LL : List (List S44)} (hn : LL.length = n) (hA : Kd.F kLL w ok A n LL) (hc : n ≤ c) :
    Calls Tryz.prog 34 #[.slice A n c] w fun e w' => FitTold (n ≤ 2147483647 ∧ ∀ l ∈ LL, FitL l) w e w' := by
  have HA := Lib.hid (And.intro hA hn)
  clear hA hn
  by_cases hbig : (n : Int) > 2147483647
  · have z0 : decide ((n : Int) > 2147483647) = true := decide_eq_true hbig
    have z0' : decide (2147483647 < (n : Int)) = true := decide_eq_true hbig
    clear hbig
    go_enter Tryz.func34, Tryz.ntmps34
    go_wp2
    go_ret
    exact ⟨false, rfl, Lib.hid (fun h => by cases h), Below.refl _ _⟩
  · have z0 : decide ((n : Int) > 2147483647) = false := decide_eq_false hbig
    have z0' : decide (2147483647 < (n : Int)) = false := decide_eq_false hbig
    have HBIG := Lib.hid (show n ≤ 2147483647 by omega)
    clear hbig
    go_enter Tryz.func34, Tryz.ntmps34
    go_wp2
    go_loopg [10] n (fun k v10 w' => ∃ j : Nat, v10 = .int .i64 (j : Int) ∧ Hid (j ≤ n ∧ n ≤ j + k) ∧ Hid (∀ l ∈ LL.take j, FitL l) ∧ Hid (Below w.heap.size w w'))
    case atStart => exact ⟨0, rfl, Lib.hid ⟨Nat.zero_le _, by omega⟩, Lib.hid (fun l hl => by simp at hl), Lib.hid (Below.refl _ _)⟩
    case round =>
      obtain ⟨j, rfl, HJ, HFT, HBL⟩ := hrel
      by_cases hj : j < n
      · obtain ⟨ad, A1, c1, rfl, r0, hl1, hF1⟩ := LL_at (Kd.F_below HA.out.1 HBL.out) hj rfl
        have HTK := Lib.hid (flat_take (LL := LL) (j := j) (by rw [HA.out.2]; exact hj) rfl).1
        generalize LL.getD j [] = x at *
        have HX := Lib.hid (And.intro hl1 hF1)
        have y0 : decide ((j : Int) < (n : Int)) = true := decide_eq_true (by omega)
        have y1 : (j : Int) < (n : Int) := by omega
        have HJL := Lib.hid (And.intro hj HJ.out.2)
        have w1' : wrap64 ((j : Int) + 1) = (j : Int) + 1 := wz (by omega) (by have := HBIG.out; omega)
        clear hl1 hF1
        go_wp2_with fail
        refine (fits19_calls (Kd.F_now HX.out.2) HX.out.1).mono ?_
        rintro e w2 ⟨b, rfl, hb, hb2⟩
        have HB2 := Lib.hid (HBL.out.trans (hb2.mono HBL.out.size))
        clear hb2
        cases b with
        | false =>
          go_wp2
          go_ret
          exact ⟨false, rfl, Lib.hid (fun h => by cases h), HB2.out⟩
        | true =>
          have HF := Lib.hid (show FitL x from hb.out rfl)
          clear hb
          go_wp2
          go_roundg (gk - 1)
          case measure => exact round_less HJL.out.1 HJL.out.2
          case rel =>
            refine ⟨j + 1, (by first | rfl | exact congrArg _ w1'), Lib.hid (round_next HJL.out.1 HJL.out.2), Lib.hid (fun l hl => ?_), HB2⟩
            rw [HTK.out] at hl
            rcases List.mem_append.1 hl with hl | hl
            · exact HFT.out l hl
            · rw [List.mem_singleton] at hl; rw [hl]; exact HF.out
      · have y0 : decide ((j : Int) < (n : Int)) = false := decide_eq_false (by omega)
        have y1 : ¬ (j : Int) < (n : Int) := by omega
        have HJN := Lib.hid (show LL.take j = LL by rw [show j = n by have := HJ.out.1; omega, ← HA.out.2, List.take_length])
        go_wp2
        go_ret
        exact ⟨true, rfl, Lib.hid (fun _ => ⟨HBIG.out, fun l hl => HFT.out l (by rw [HJN.out]; exact hl)⟩), HBL.out⟩

theorem heap_kLL : Kd.Heap kLL := Kd.heap_slice _ heap_k44
theorem asC_app (a b : List S44) : asC (a ++ b) = asC a ++ asC b := List.map_append
theorem few_cnt {LL : List (List S44)} {ms : List S104} (h : few LL ms = true) : LL.length ≤ 4096 ∧ LL.flatten.length ≤ 4096 ∧ ms.length ≤ 4096 := by
  unfold few at h
  have h1 := (of_decide_eq_true h).2
  have e : cntL LL = LL.flatten.length := by simp [cntL]
  omega
theorem len_flat {LL : List (List S44)} : ∀ l ∈ LL, l.length ≤ LL.flatten.length := by
  induction LL with
  | nil => intro l h; cases h
  | cons x r ih =>
    intro l h
    rw [List.flatten_cons, List.length_append]
    rcases List.mem_cons.1 h with rfl | h
    · omega
    · have := ih l h; omega

set_option maxHeartbeats 6400000 in
set_option maxRecDepth 100000 in
theorem indexedWalk_law {w : World} {A Am : Option Addr} {c cm : Nat} {LL : List (List S44)} {ms : List S104} (o0 : Int) (hA : Kd.C kLL w A LL.length LL) (hc : LL.length ≤ c) (hb : ∀ l ∈ LL, ∀ x ∈ l, Byt x.f0 ∧ Byt x.f1) (hM : Kd.C k104 w Am ms.length ms) (hcm : ms.length ≤ cm) (hbM : ∀ m ∈ ms, Byt m.f1) :
    Calls Tryz.prog 7 #[.int .i64 o0, .slice A LL.length c, .slice Am ms.length cm] w fun e w' => e = .returned (.bool true) ∧ Below w.heap.size w w' := by
  generalize hn : LL.length = n at *
  have HNN := Lib.hid hn
  have HA := Lib.hid (And.intro (Kd.C_F heap_kLL hA) (And.intro hc hb))
  have HM := Lib.hid (And.intro (Kd.C_F heap_k104 hM) (And.intro hcm hbM))
  clear hA hc hb hM hcm hbM hn
  go_enter Tryz.func7, Tryz.ntmps7
  go_wp2_with fail
  refine (fits27_calls HNN.out HA.out.1 HA.out.2.1).mono ?_
  rintro e w1 ⟨b, rfl, HB, hb1⟩
  have HB1 := Lib.hid hb1
  clear hb1
  cases b with
  | false =>
    go_wp2
    go_ret
    exact ⟨rfl, HB1.out⟩
  | true =>
    have hlx := HB.out rfl
    have HLX := Lib.hid hlx
    clear HB hlx
    go_wp2_with fail
    refine (fits22_calls (Kd.F_now (Kd.F_below HM.out.1 HB1.out)) HM.out.2.1).mono ?_
    rintro e w2 ⟨b, rfl, HB, hb2⟩
    have HB2 := Lib.hid (HB1.out.trans (hb2.mono HB1.out.size))
    clear hb2
    cases b with
    | false =>
      go_wp2
      go_ret
      exact ⟨rfl, HB2.out⟩
    | true =>
      have hmx := HB.out rfl
      have HMX := Lib.hid hmx
      clear HB hmx
      go_wp2_with fail
      refine (fewPairs_calls (ms := ms) HNN.out (Kd.F_below HA.out.1 HB2.out) (fun k hk => Nat.lt_of_lt_of_le hk HB2.out.size) rfl (Kd.F_below HM.out.1 HB2.out) (fun k hk => Nat.lt_of_lt_of_le hk HB2.out.size) HLX.out.1 (fun x hx => (HLX.out.2 x hx).1) HMX.out.1).mono ?_
      rintro e w4 ⟨rfl, hb4⟩
      have HB4 := Lib.hid (HB2.out.trans (hb4.mono HB2.out.size))
      clear hb4
      cases hfew : few LL ms with
      | false =>
        go_wp2
        go_ret
        exact ⟨rfl, HB4.out⟩
      | true =>
        have hfc := few_cnt hfew
        rw [HNN.out] at hfc
        have HFC := Lib.hid hfc
        clear hfc hfew
        have ho := ord3 o0
        go_wp2_with fail
        generalize wrap64 ((IntKind.u64.wrap o0).tmod 3) = o at *
        have HO := Lib.hid ho
        clear ho
        go_loopg [7, 8] n (fun k v7 v8 w' => ∃ j : Nat, v8 = .int .i64 (j : Int) ∧ Hid (j ≤ n ∧ n ≤ j + k) ∧ Hid (Kd.N k36 36 w' w4.heap.size (fun k => k < w.heap.size ∨ w4.heap.size ≤ k) v7 (asC (LL.take j).flatten)) ∧ Hid (Below w4.heap.size w4 w'))
        case atStart => exact ⟨0, rfl, Lib.hid ⟨Nat.zero_le _, by omega⟩, Lib.hid (Kd.N_nil _ _ _ _ _), Lib.hid (Below.refl _ _)⟩
        case round =>
          obtain ⟨j, rfl, HJ, HAL, HBL⟩ := hrel
          have HBW := Lib.hid (HB4.out.trans (HBL.out.mono HB4.out.size))
          by_cases hj : j < n
          · obtain ⟨ad, A1, c1, rfl, r0, hl1, hF1⟩ := LL_at (Kd.F_below HA.out.1 HBW.out) hj rfl
            have hj' : j < LL.length := by rw [HNN.out]; exact hj
            have HTK := Lib.hid (flat_take (LL := LL) (j := j) hj' rfl)
            have htot := off_in_le LL j hj'
            have HX := Lib.hid (And.intro hl1 hF1)
            generalize LL.getD j [] = x at *
            have HCN := Lib.hid (show (LL.take j).flatten.length + x.length ≤ 4096 by have := HFC.out.2.1; omega)
            have y0 : decide ((j : Int) < (n : Int)) = true := decide_eq_true (by omega)
            have y1 : (j : Int) < (n : Int) := by omega
            have HJL := Lib.hid (And.intro hj HJ.out.2)
            have w1' : wrap64 ((j : Int) + 1) = (j : Int) + 1 := wz (by omega) (by have := HFC.out.1; omega)
            clear hl1 hF1 htot hj'
            go_wp2_with (first
              | (go_at_call 26; (with_reducible refine (pairs_calls HX.out.2 HX.out.1 (by have := HCN.out; omega)).mono ?_); rintro e w5 ⟨A5, c5, rfl, hc5, hF5, hb5⟩; have HF5 := Lib.hid (Kd.F_bound hF5); have HBL5 := Lib.hid (HBL.out.trans (hb5.mono HBL.out.size)); have HAL5 := Lib.hid (Kd.N_below HAL.out hb5); have HSZ := Lib.hid hb5.size; clear hF5)
              | (at_builtin; go_loud (refine Kd.N_append_rows k36 w4.heap.size rfl (.tmp 33) (.tmp 38) 31 36 (.agg #[.slice none 0 0, .slice none 0 0]) 48 rfl Tryz.underlying31 info_CP rfl (by decide) (by decide) _ _ _ _ _ _ (fun k => k < w.heap.size ∨ w4.heap.size ≤ k) (fun k => (k < w.heap.size ∨ wr.heap.size ≤ k) ∧ k < w5.heap.size) rfl rfl HAL5.out HF5.out (fun k hk => ⟨hk.1.elim .inl (fun h => .inr (Nat.le_trans HBL.out.size h)), fun e => by have h1 := Kd.N_base HAL.out k e.symm; have h2 := Kd.N_lt HAL.out k e.symm; have h3 := HB4.out.size; have h4 := hk.1; omega⟩) (fun k hk => .inr (Nat.le_trans HBL5.out.size hk)) HBL5.out HBL5.out.size (by have := HCN.out; rw [asC_len]; omega) ?_); intro v6 w6 hn6 hb6 hg6 hat6))
            have HN6 := Lib.hid hn6
            have HB6 := Lib.hid hb6
            clear hn6 hb6 hg6 hat6
            go_roundg (gk - 1)
            case measure => exact round_less HJL.out.1 HJL.out.2
            case rel => exact ⟨j + 1, (by first | rfl | exact congrArg _ w1'), Lib.hid (round_next HJL.out.1 HJL.out.2), Lib.hid (by rw [HTK.out.2, asC_app]; exact HN6.out), HB6⟩
          · have y0 : decide ((j : Int) < (n : Int)) = false := decide_eq_false (by omega)
            have y1 : ¬ (j : Int) < (n : Int) := by omega
            have ht : LL.take j = LL := by rw [show j = n by have := HJ.out.1; omega, ← HNN.out, List.take_length]
            rw [ht] at HAL
            obtain ⟨A7, c7, rfl⟩ := Kd.N_slice HAL.out
            rw [asC_len] at HAL ⊢
            have HALF := Lib.hid (And.intro (Kd.N_F HAL.out) (Kd.N_reads' HAL.out).2.1)
            have HXX := Lib.hid (show ∀ x ∈ LL.flatten, x.f0.length ≤ 4294967296 ∧ x.f1.length ≤ 4294967296 from fun x hx => by
              obtain ⟨l, hl, hxl⟩ := List.mem_flatten.1 hx
              have := (HLX.out.2 l hl).2 x hxl
              omega)
            have HLN := Lib.hid (show ∀ l ∈ LL, l.length ≤ 1048576 ∧ ∀ x ∈ l, x.f0.length ≤ 4294967296 ∧ x.f1.length ≤ 4294967296 from fun l hl => ⟨by have := len_flat l hl; have := HFC.out.2.1; omega, fun x hx => by have := (HLX.out.2 l hl).2 x hx; omega⟩)
            have HRI := Lib.hid (show ∀ (W : World), Below wr.heap.size wr W → Calls Tryz.prog 25 #[.int .i64 o, .slice A7 LL.flatten.length c7] W fun e w' => e = .returned (.bool (risesL (cmpO o) (kvS LL.flatten))) ∧ Below W.heap.size W w' from fun W hW => by
              have := rises_calls o (Kd.F_now (Kd.F_below HALF.out.1 hW)) (asC_len LL.flatten) HALF.out.2 (asC_all HXX.out) (by have := HFC.out.2.1; omega)
              rw [asC_kv] at this
              exact this)
            have HIW := Lib.hid (IndexedWalk_calls (c := c) (cm := cm) (cmpr_ord HO.out) HNN.out (Kd.F_below HA.out.1 HBW.out) HA.out.2.1 (fun k hk => Nat.lt_of_lt_of_le hk HBW.out.size) (fun l hl x hx => (HA.out.2.2 l hl x hx).1) (by have := HFC.out.1; omega) (by have := HFC.out.2.1; omega) HLN.out (Kd.F_below HM.out.1 HBW.out) HM.out.2.2 (fun k hk q => by have := HBW.out.size; omega) (by have := HMX.out.1; omega))
            have HFL := Lib.hid HFC.out.2.1
            clear ht
            go_upto_region 11 with (fail)
            generalize hnf : LL.flatten.length = nf at *
            have HNF := Lib.hid hnf
            clear hnf
            go_wp2_with fail
            refine HIW.out.mono ?_
            rintro e w5 ⟨hb5, hres⟩
            have HB5 := Lib.hid (HBW.out.trans (hb5.mono HBW.out.size))
            have HBR5 := Lib.hid hb5
            clear hb5
            rcases hres with ⟨hr, v, rfl, hN⟩ | ⟨hr, rfl⟩
            · obtain ⟨Ag, cg, rfl⟩ := Kd.N_slice hN
              rw [atsL_len] at hN ⊢
              rw [show kvS LL.flatten = kvC (asC LL.flatten) from (asC_kv LL.flatten).symm] at hN
              have HG := Lib.hid (Kd.N_F hN)
              have HR := Lib.hid hr
              clear hr hN
              go_wp2_with (first
                | (go_at_call 25; (with_reducible refine (HRI.out _ HBR5.out).mono ?_); rintro e w7 ⟨rfl, hb7⟩; rw [HR.out]; have HB7 := Lib.hid (HB5.out.trans (hb7.mono HB5.out.size)))
                | (go_at_call 27; (with_reducible refine (walked_calls (l := asC LL.flatten) (ms := ms) o (Kd.F_below (Kd.F_below HALF.out.1 HBR5.out) hb7) (by rw [asC_len]; exact HNF.out) HALF.out.2 (asC_all HXX.out) (by have := HFL.out; omega) (Kd.F_below HM.out.1 HB7.out) rfl (by have := HMX.out.1; omega) (fun m hm => by have := HMX.out.2 m hm; omega) (Kd.F_below HG.out hb7)).mono ?_); rintro e w9 ⟨rfl, hb9⟩; have HB9 := Lib.hid (HB7.out.trans (hb9.mono HB7.out.size)))
                | (go_at_call 28; (with_reducible refine walkAwake_calls.mono ?_); rintro e w10 ⟨rfl, hb10⟩; have HB10 := Lib.hid (HB9.out.trans (hb10.mono HB9.out.size))))
              go_ret
              exact ⟨rfl, HB10.out⟩
            · have HR := Lib.hid hr
              clear hr
              go_wp2_with (go_at_call 25; (with_reducible refine (HRI.out _ HBR5.out).mono ?_); rintro e w7 ⟨rfl, hb7⟩; rw [HR.out]; have HB7 := Lib.hid (HB5.out.trans (hb7.mono HB5.out.size)))
              go_ret
              exact ⟨rfl, HB7.out⟩

end Go.Proofs.YtdkkkikcigjlhaaGreatDoor.Md

namespace Go.Proofs.YtdkkkikcigjlhaaGreatDoor.Md
open Go.RowKit Go.Proofs.YtdkkkikcigjlhaaGreatDoor.Open Go.Proofs.YtdkkkikcigjlhaaGreatDoorW.PrintWords Go.Proofs.YtdkkkikcigjlhaaGreatDoor.Cmp Go.Proofs.YtdkkkikcigjlhaaGreatDoor.PFnMemMap

abbrev LLK : Kd (List (List S44)) := Kd.slice 38 kLL
theorem lls_opens : Opens Tryz.prog 50 LLK (fun xs => ∀ l ∈ xs, ∀ x ∈ l, (∀ z ∈ x.f0, (Lit.int .u8 z).wf = true) ∧ (∀ z ∈ x.f1, (Lit.int .u8 z).wf = true)) := opens_slice Tryz.underlying50 (by kernel_rfl) kvs_opens

theorem indexedWalk_row (o : Int) (A : Option Addr) (n c : Nat) (LL : List (List S44)) (Am : Option Addr) (nm cm : Nat) (ms : List S104) (w : World) (w0 : (Lit.int .i64 o).wf = true)
    (h : LLK.K w LL [.slice A n c]) (ho : ∀ l ∈ LL, ∀ x ∈ l, (∀ z ∈ x.f0, (Lit.int .u8 z).wf = true) ∧ (∀ z ∈ x.f1, (Lit.int .u8 z).wf = true)) (g : MvsK.K w ms [.slice Am nm cm]) (go : ∀ x ∈ ms, (Lit.int .i64 x.f0).wf = true ∧ (∀ z ∈ x.f1, (Lit.int .u8 z).wf = true)) :
    Calls Tryz.prog 7 #[.int .i64 o, .slice A n c, .slice Am nm cm] w fun x w' => x = .returned (.bool true) ∧ Below w.heap.size w w' := by
  obtain ⟨A', c', he, hc, hC⟩ := h
  injection he with he _
  injection he with e1 e2 e3
  subst e1 e2 e3
  obtain ⟨B', d', he, hd, hD⟩ := g
  injection he with he _
  injection he with e1 e2 e3
  subst e1 e2 e3
  exact indexedWalk_law o hC hc (fun l hl x hx => ⟨r_byt (ho l hl x hx).1, r_byt (ho l hl x hx).2⟩) hD hd (fun m hm => r_byt (go m hm).2)

end Go.Proofs.YtdkkkikcigjlhaaGreatDoor.Md
