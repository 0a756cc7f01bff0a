/- The law FnMemMap, walked: it answers true, whatever the input. FnMemMap's walk, from arguments that are read as data, and from the row's list of variables. -/
import Derived.Test.YtdkkkikcigjlhaaGreatDoorMm17
import Derived.Test.YtdkkkikcigjlhaaGreatDoorMm15
import Derived.BigRegion
import Derived.Deep.RegionHeld3
import Derived.Lib.QuietBelow
import Derived.Test.YtdkkkikcigjlhaaGreatDoorRows
import Derived.LaidSub
import Derived.Stop.LaidErr
set_option linter.unusedVariables false
set_option linter.unusedSimpArgs false
namespace Go.Proofs.YtdkkkikcigjlhaaGreatDoor.Md
open Go.RowKit Go.Proofs.YtdkkkikcigjlhaaGreatDoor.Con Go.Proofs.YtdkkkikcigjlhaaGreatDoor.Run Go.Proofs.YtdkkkikcigjlhaaGreatDoorW.PrintWords Go.Proofs.YtdkkkikcigjlhaaGreatDoorW.PrintMore Go.Proofs.YtdkkkikcigjlhaaGreatDoor.Cmp Go.Sort Go.RwLone Go.Proofs.YtdkkkikcigjlhaaGreatDoor.PFnMemMap

theorem heap_k77 : Kd.Heap k77 := Kd.heap_iso _ (Kd.heap_pair (Kd.heap_int .i64) (Kd.heap_pair (Kd.heap_slice 5 (Kd.heap_int .u8)) (Kd.heap_slice 5 (Kd.heap_int .u8))))

theorem fewO_true {l : List S77} (h : fewO l = true) (h1 : sumO l ≤ 9223372028264841218) : sumO l ≤ 1048576 ∧ l.length ≤ 4096 := by
  unfold fewO at h
  have := of_decide_eq_true h
  have e : wrap64 ((sumO l : Nat) : Int) = ((sumO l : Nat) : Int) := wz (by omega) (by omega)
  rw [e] at this
  omega

theorem cell0_lt {w : World} {u : Value} (hE : w.cell? ⟨0, 0, none⟩ = some u) : 0 < w.heap.size := by
  by_cases q : 0 < w.heap.size
  · exact q
  · have : w.heap[(0 : Nat)]? = none := Array.getElem?_eq_none (by omega)
    simp [World.cell?, this] at hE

theorem sumO_le {l : List S77} {m : Nat} (h : ∀ x ∈ l, x.f1.length ≤ m ∧ x.f2.length ≤ m) : sumO l ≤ l.length * (2 * m) := by
  induction l with
  | nil => simp [sumO]
  | cons x r ih =>
    have h1 := ih (fun y hy => h y (by simp [hy]))
    have h2 := h x (by simp)
    have e : sumO (x :: r) = x.f1.length + x.f2.length + sumO r := by simp [sumO]
    rw [e, List.length_cons, Nat.succ_mul]
    omega

theorem her_kv {m : List S36} {p : Nat} (h : p < m.length) : (kvC m).getD p ([], []) = ((m.getD p (⟨[], []⟩ : S36)).f0, (m.getD p (⟨[], []⟩ : S36)).f1) := by
  simp [kvC, List.getD_eq_getElem?_getD, h]

theorem ans_arm {f : List Int → List Int → Int} {m : List S36} {x : S77} {y : S79} (hy : ansL f (kvC m) x = y) :
    (x.f0 = 0 → y.f3 = true) ∧ (x.f0 = 1 → y.f3 = hitL f x.f1 (kvC m)) ∧ (x.f0 = 2 → y.f3 = hitL f x.f1 (kvC m) ∧ (hitL f x.f1 (kvC m) = true → y.f1 = (m.getD (findL f x.f1 (kvC m)) (⟨[], []⟩ : S36)).f1)) ∧ (x.f0 = 3 → y.f3 = hitL f x.f1 (kvC m)) ∧
    (x.f0 = 4 → y.f3 = decide (findL f x.f1 (kvC m) < m.length) ∧ (findL f x.f1 (kvC m) < m.length → y.f0 = (m.getD (findL f x.f1 (kvC m)) (⟨[], []⟩ : S36)).f0 ∧ y.f1 = (m.getD (findL f x.f1 (kvC m)) (⟨[], []⟩ : S36)).f1)) ∧
    (x.f0 = 5 → y.f2 = (m.length : Int)) ∧ (x.f0 = 6 → y.f2 = (wtL (kvC m) : Int)) := by
  subst hy
  refine ⟨fun d => ?_, fun d => ?_, fun d => ?_, fun d => ?_, fun d => ?_, fun d => ?_, fun d => ?_⟩
  · unfold ansL; rw [if_pos d]
  · unfold ansL; rw [if_neg (by omega), if_pos d]
  · unfold ansL
    rw [if_neg (by omega), if_neg (by omega), if_pos d]
    refine ⟨rfl, fun h => ?_⟩
    have hp : findL f x.f1 (kvC m) < m.length := by
      rw [hit_at, Bool.and_eq_true] at h
      exact of_decide_eq_true h.1
    show (if hitL f x.f1 (kvC m) = true then (herL f x.f1 (kvC m)).2 else []) = _
    rw [if_pos h]
    unfold herL
    rw [her_kv hp]
  · unfold ansL; rw [if_neg (by omega), if_neg (by omega), if_neg (by omega), if_pos d]
  · unfold ansL
    rw [if_neg (by omega), if_neg (by omega), if_neg (by omega), if_neg (by omega), if_pos d, kvC_len]
    refine ⟨rfl, fun hp => ?_⟩
    show (if findL f x.f1 (kvC m) < m.length then (herL f x.f1 (kvC m)).1 else []) = _ ∧ (if findL f x.f1 (kvC m) < m.length then (herL f x.f1 (kvC m)).2 else []) = _
    rw [if_pos hp, if_pos hp]
    unfold herL
    rw [her_kv hp]
    exact ⟨rfl, rfl⟩
  · unfold ansL; rw [if_neg (by omega), if_neg (by omega), if_neg (by omega), if_neg (by omega), if_neg (by omega), if_pos d, kvC_len]
  · unfold ansL; rw [if_neg (by omega), if_neg (by omega), if_neg (by omega), if_neg (by omega), if_neg (by omega), if_neg (by omega), if_pos d]

theorem step_arm (f : List Int → List Int → Int) (m : List S36) (x : S77) :
    (x.f0 = 0 → stepC f m x = putC f x.f1 x.f2 m) ∧ (x.f0 = 1 → stepC f m x = dropC f x.f1 m) ∧ (x.f0 = 2 ∨ x.f0 = 3 ∨ x.f0 = 4 ∨ x.f0 = 5 ∨ x.f0 = 6 → stepC f m x = m) ∧ (x.f0 ≠ 0 ∧ x.f0 ≠ 1 ∧ x.f0 ≠ 2 ∧ x.f0 ≠ 3 ∧ x.f0 ≠ 4 ∧ x.f0 ≠ 5 ∧ x.f0 ≠ 6 → stepC f m x = []) := by
  refine ⟨fun d => ?_, fun d => ?_, fun d => ?_, fun d => ?_⟩
  · unfold stepC; rw [if_pos d]
  · unfold stepC; rw [if_neg (by omega), if_pos d]
  · unfold stepC
    rw [if_neg (by omega), if_neg (by omega)]
    (repeat' split) <;> first | rfl | omega
  · unfold stepC
    rw [if_neg d.1, if_neg d.2.1, if_neg d.2.2.1, if_neg d.2.2.2.1, if_neg d.2.2.2.2.1, if_neg d.2.2.2.2.2.1, if_neg d.2.2.2.2.2.2]

abbrev RdAt (w : World) (g h : Nat) (A1 : Option Addr) (c1 : Nat) (A2 : Option Addr) (c2 : Nat) (x : S77) (B0 : Option Addr) (d0 : Nat) (B1 : Option Addr) (d1 : Nat) (y : S79) (w' : World) : Prop :=
  w'.heap[g]? = some (.cells #[.int .i64 x.f0, .slice A1 x.f1.length c1, .slice A2 x.f2.length c2] 77 (0, 0)) ∧ w'.heap[h]? = some (.cells #[.slice B0 y.f0.length d0, .slice B1 y.f1.length d1, .int .i64 y.f2, .bool y.f3] 79 (0, 0)) ∧ Below w.heap.size w w'

section
variable {w w1 w2 : World} {g h : Nat} {A1 : Option Addr} {c1 : Nat} {A2 : Option Addr} {c2 : Nat} {x : S77} {B0 : Option Addr} {d0 : Nat} {B1 : Option Addr} {d1 : Nat} {y : S79}
theorem RdAt.then_ (r : RdAt w g h A1 c1 A2 c2 x B0 d0 B1 d1 y w1) (hb : Below w1.heap.size w1 w2) : RdAt w g h A1 c1 A2 c2 x B0 d0 B1 d1 y w2 :=
  ⟨(hb.block _ (blk_lt r.1)).trans r.1, (hb.block _ (blk_lt r.2.1)).trans r.2.1, r.2.2.trans (hb.mono r.2.2.size)⟩
theorem RdAt.g0 (r : RdAt w g h A1 c1 A2 c2 x B0 d0 B1 d1 y w1) : w1.cell? ⟨g, 0, none⟩ = some (.int .i64 x.f0) := (blk_cell r.1 0).trans rfl
theorem RdAt.g1 (r : RdAt w g h A1 c1 A2 c2 x B0 d0 B1 d1 y w1) : w1.cell? ⟨g, 1, none⟩ = some (.slice A1 x.f1.length c1) := (blk_cell r.1 1).trans rfl
theorem RdAt.g2 (r : RdAt w g h A1 c1 A2 c2 x B0 d0 B1 d1 y w1) : w1.cell? ⟨g, 2, none⟩ = some (.slice A2 x.f2.length c2) := (blk_cell r.1 2).trans rfl
theorem RdAt.h0 (r : RdAt w g h A1 c1 A2 c2 x B0 d0 B1 d1 y w1) : w1.cell? ⟨h, 0, none⟩ = some (.slice B0 y.f0.length d0) := (blk_cell r.2.1 0).trans rfl
theorem RdAt.h1 (r : RdAt w g h A1 c1 A2 c2 x B0 d0 B1 d1 y w1) : w1.cell? ⟨h, 1, none⟩ = some (.slice B1 y.f1.length d1) := (blk_cell r.2.1 1).trans rfl
theorem RdAt.h2 (r : RdAt w g h A1 c1 A2 c2 x B0 d0 B1 d1 y w1) : w1.cell? ⟨h, 2, none⟩ = some (.int .i64 y.f2) := (blk_cell r.2.1 2).trans rfl
theorem RdAt.h3 (r : RdAt w g h A1 c1 A2 c2 x B0 d0 B1 d1 y w1) : w1.cell? ⟨h, 3, none⟩ = some (.bool y.f3) := (blk_cell r.2.1 3).trans rfl
end

abbrev LsAt (w : World) (A : Option Addr) (c : Nat) (m : List S36) : Prop := m.length ≤ c ∧ Kd.F k36 w (fun k => k < w.heap.size) A m.length m
theorem LsAt.below {w w1 : World} {A : Option Addr} {c : Nat} {m : List S36} (h : LsAt w A c m) (hb : Below w.heap.size w w1) : LsAt w1 A c m :=
  ⟨h.1, Kd.F_mono (Kd.F_bound (Kd.F_below h.2 hb)) (fun k hk => hk.2)⟩

set_option maxHeartbeats 6400000 in
set_option maxRecDepth 100000 in
theorem memMap_law {w : World} {A : Option Addr} {c : Nat} {l : List S77} {Te : Nat} {ae : Addr} (o0 : Int) (hA : Kd.C k77 w A l.length l) (hc : l.length ≤ c) (hb : ∀ x ∈ l, Byt x.f1 ∧ Byt x.f2) (hE : w.cell? ⟨0, 0, none⟩ = some (.iface Te (.pointer (some ae)))) :
    Calls Tryz.prog 8 #[.int .i64 o0, .slice A l.length c] w fun e w' => e = .returned (.bool true) ∧ Below w.heap.size w w' := by
  have HA := Lib.hid (And.intro (Kd.C_F heap_k77 hA) (And.intro hc hb))
  have HE := Lib.hid hE
  clear hA hc hb hE
  go_enter Tryz.func8, Tryz.ntmps8
  go_wp2_with fail
  refine (fits25_calls (Kd.F_now HA.out.1) HA.out.2.1).mono ?_
  rintro e w1 ⟨b, rfl, HB, hb1⟩
  have HB1 := Lib.hid hb1
  clear hb1
  cases b with
  | false =>
    go_wp2
    go_ret
    exact ⟨rfl, HB1.out⟩
  | true =>
    have hlx := HB.out rfl
    have HLX := Lib.hid hlx
    clear HB hlx
    go_wp2_with fail
    refine (fewOps_calls rfl (Kd.F_below HA.out.1 HB1.out) HLX.out.1).mono ?_
    rintro e w2 ⟨rfl, hb2⟩
    have HB2 := Lib.hid (HB1.out.trans (hb2.mono HB1.out.size))
    clear hb2
    generalize hfew : fewO l = bf
    have HFEW := Lib.hid hfew
    clear hfew
    cases bf with
    | false =>
      go_wp2
      go_ret
      exact ⟨rfl, HB2.out⟩
    | true =>
      have hfl := fewO_true HFEW.out (by
        have h1 := sumO_le HLX.out.2
        have h2 := HLX.out.1
        have h3 : l.length * (2 * 2147483647) ≤ 2147483647 * (2 * 2147483647) := Nat.mul_le_mul_right _ h2
        omega)
      have HFL := Lib.hid hfl
      clear hfl
      have ho := ord3 o0
      have HER := Lib.hid ((HB2.out.cell (p := ⟨0, 0, none⟩) (cell0_lt HE.out)).trans HE.out)
      go_wp2_with fail
      generalize wrap64 ((IntKind.u64.wrap o0).tmod 3) = o at *
      have HO := Lib.hid ho
      clear ho
      refine (MemScript_calls (cmpr_ord HO.out) (Kd.F_below HA.out.1 HB2.out) HA.out.2.2 (fun k hk q => by have := HB2.out.size; omega) HFL.out.1 HFL.out.2 HER.out).mono ?_
      rintro e w3 ⟨v, rfl, hN, hb3⟩
      have HB3 := Lib.hid (HB2.out.trans (hb3.mono HB2.out.size))
      obtain ⟨Ag, cg, rfl⟩ := Kd.N_slice hN
      rw [scrL_len] at hN ⊢
      have HG := Lib.hid (Kd.N_F hN)
      clear hb3 hN
      generalize hn : l.length = n at *
      have HN := Lib.hid hn
      clear hn
      go_wp2
      go_loopg [6, 7] n (fun k v6 v7 w' => ∃ (j : Nat) (A6 : Option Addr) (c6 : Nat), v7 = .int .i64 (j : Int) ∧ v6 = .slice A6 (endC (cmpO o) (l.take j)).length c6 ∧ Hid (j ≤ n ∧ n ≤ j + k) ∧ Hid ((endC (cmpO o) (l.take j)).length ≤ c6 ∧ Kd.F k36 w' (fun k => k < w'.heap.size) A6 (endC (cmpO o) (l.take j)).length (endC (cmpO o) (l.take j))) ∧ Hid (Below w3.heap.size w3 w'))
      case atStart => exact ⟨0, none, 0, rfl, rfl, Lib.hid ⟨Nat.zero_le _, by omega⟩, Lib.hid ⟨Nat.le_refl _, fun W' _ => Kd.C_nil _ _⟩, Lib.hid (Below.refl _ _)⟩
      case round =>
        obtain ⟨j, A6, c6, rfl, rfl, HJ, HM, HBW⟩ := hrel
        by_cases hj : j < n
        · have hFr : Kd.F k77 wr (fun k => k < w.heap.size) A n l := Kd.F_below HA.out.1 (HB3.out.trans (HBW.out.mono HB3.out.size))
          have hmem : l.getD j (⟨0, [], []⟩ : S77) ∈ l := by
            rw [List.getD_eq_getElem?_getD, List.getElem?_eq_getElem (by rw [HN.out]; exact hj)]
            exact List.getElem_mem _
          have HTK := Lib.hid (take_next (l := l) (i := j) (by rw [HN.out]; exact hj) (⟨0, [], []⟩ : S77))
          have hget := scrL_get (cmpO o) (⟨[], [], 0, false⟩ : S79) (⟨0, [], []⟩ : S77) l [] j (by rw [HN.out]; exact hj)
          have HXL := Lib.hid (HLX.out.2 _ hmem)
          obtain ⟨ad, A1, c1, A2, c2, rfl, r0, r1, r2, hF1, hF2, hl1, hl2⟩ := op_at hFr hj rfl
          obtain ⟨ag, B0, d0, B1, d1, hAg, s0, s1, s2, s3, hG0, hG1, hg0, hg1⟩ := ans_at (Kd.F_below HG.out HBW.out) hj hget
          subst hAg
          generalize l.getD j (⟨0, [], []⟩ : S77) = x at *
          have hfo : (l.take j).foldl (stepL (cmpO o)) [] = kvC (endC (cmpO o) (l.take j)) := (endC_kv (cmpr_ord HO.out).ord (l.take j)).symm
          rw [hfo] at s0 s1 s2 s3 hG0 hG1 hg0 hg1
          generalize hy : ansL (cmpO o) (kvC (endC (cmpO o) (l.take j))) x = y at *
          have hrm := endC_room (cmpr_ord HO.out).ord (l.take j)
          have hst := Nat.le_trans (sumO_take l j) HFL.out.1
          have hlt : (l.take j).length ≤ 4096 := by rw [List.length_take]; have := HFL.out.2; omega
          have HRM := Lib.hid (show (endC (cmpO o) (l.take j)).length ≤ 4096 ∧ wtL (kvC (endC (cmpO o) (l.take j))) ≤ 1048576 ∧ ∀ z ∈ endC (cmpO o) (l.take j), z.f0.length ≤ 1048576 from ⟨by omega, by omega, fun z hz => by have := hrm.2.2 z hz; omega⟩)
          have HFX := Lib.hid (show Kd.F (Kd.int .u8) wr (fun k => k < wr.heap.size) A1 x.f1.length x.f1 ∧ Kd.F (Kd.int .u8) wr (fun k => k < wr.heap.size) A2 x.f2.length x.f2 ∧ x.f1.length ≤ c1 ∧ x.f2.length ≤ c2 from ⟨Kd.F_mono (Kd.F_bound hF1) (fun k hk => hk.2), Kd.F_mono (Kd.F_bound hF2) (fun k hk => hk.2), hl1, hl2⟩)
          have HFY := Lib.hid (show Kd.F (Kd.int .u8) wr (fun k => k < wr.heap.size) B0 y.f0.length y.f0 ∧ Kd.F (Kd.int .u8) wr (fun k => k < wr.heap.size) B1 y.f1.length y.f1 ∧ y.f0.length ≤ d0 ∧ y.f1.length ≤ d1 from ⟨Kd.F_mono (Kd.F_bound hG0) (fun k hk => hk.2), Kd.F_mono (Kd.F_bound hG1) (fun k hk => hk.2), hg0, hg1⟩)
          have HMQ := Lib.hid (show endC (cmpO o) (l.take (j + 1)) = stepC (cmpO o) (endC (cmpO o) (l.take j)) x by rw [HTK.out, endC_snoc])
          have HSA := Lib.hid (step_arm (cmpO o) (endC (cmpO o) (l.take j)) x)
          have HAA := Lib.hid (ans_arm hy)
          have HHIT := Lib.hid (hit_at (f := cmpO o) (key := x.f1) (l := endC (cmpO o) (l.take j)))
          have HMW := Lib.hid (show LsAt wr A6 c6 (endC (cmpO o) (l.take j)) from HM.out)
          have z0 : decide ((j : Int) < (n : Int)) = true := decide_eq_true (by omega)
          have HJL := Lib.hid (And.intro hj HJ.out.2)
          have w1' : wrap64 ((j : Int) + 1) = (j : Int) + 1 := wz (by omega) (by have := HFL.out.2; omega)
          clear hy hfo hget hmem hFr hF1 hF2 hl1 hl2 hG0 hG1 hg0 hg1 hrm hst hlt HM
          generalize stepC (cmpO o) (endC (cmpO o) (l.take j)) x = r at *
          generalize endC (cmpO o) (l.take j) = m at *
          go_upto_region 13 with (fail)
          go_cut [8, 9] (fun v8 v9 wc => ∃ g h : Nat, v8 = .pointer (some ⟨g, 0, none⟩) ∧ v9 = .pointer (some ⟨h, 0, none⟩) ∧ Hid (RdAt wr g h A1 c1 A2 c2 x B0 d0 B1 d1 y wc))
          case first =>
            rename_i J K hJ hK
            have KS : ∀ W, Below wr.heap.size wr W → W.cell? (ad.add (j * 3)) = some (.int .i64 x.f0) ∧ W.cell? ⟨(ad.add (j * 3)).block, (ad.add (j * 3)).off + 1, none⟩ = some (.slice A1 x.f1.length c1) ∧ W.cell? ⟨(ad.add (j * 3)).block, (ad.add (j * 3)).off + 2, none⟩ = some (.slice A2 x.f2.length c2) ∧ W.cell? (ag.add (j * 4)) = some (.slice B0 y.f0.length d0) ∧ W.cell? ⟨(ag.add (j * 4)).block, (ag.add (j * 4)).off + 1, none⟩ = some (.slice B1 y.f1.length d1) ∧ W.cell? ⟨(ag.add (j * 4)).block, (ag.add (j * 4)).off + 2, none⟩ = some (.int .i64 y.f2) ∧ W.cell? ⟨(ag.add (j * 4)).block, (ag.add (j * 4)).off + 3, none⟩ = some (.bool y.f3) := fun W hb => ⟨pw_cell_below hb r0, pw_cell_below hb r1, pw_cell_below hb r2, pw_cell_below hb s0, pw_cell_below hb s1, pw_cell_below hb s2, pw_cell_below hb s3⟩
            have HKS := Lib.hid KS
            clear KS
            go_region_held3 (fun w' => w'.cell? (ad.add (j * 3)) = some (.int .i64 x.f0) ∧ w'.cell? ⟨(ad.add (j * 3)).block, (ad.add (j * 3)).off + 1, none⟩ = some (.slice A1 x.f1.length c1) ∧ w'.cell? ⟨(ad.add (j * 3)).block, (ad.add (j * 3)).off + 2, none⟩ = some (.slice A2 x.f2.length c2) ∧ w'.cell? (ag.add (j * 4)) = some (.slice B0 y.f0.length d0) ∧ w'.cell? ⟨(ag.add (j * 4)).block, (ag.add (j * 4)).off + 1, none⟩ = some (.slice B1 y.f1.length d1) ∧ w'.cell? ⟨(ag.add (j * 4)).block, (ag.add (j * 4)).off + 2, none⟩ = some (.int .i64 y.f2) ∧ w'.cell? ⟨(ag.add (j * 4)).block, (ag.add (j * 4)).off + 3, none⟩ = some (.bool y.f3))
              ((refine HKS.out _ ?_; repeat (first | exact Below.refl _ _ | refine below_drew ?_ | refine below_alloc ?_ _ | refine below_set ?_ (by first | exact Nat.le_refl _ | exact Nat.le_succ _ | simp))))
              (fail)
            all_goals (
              simp only [Exit.then]
              refine hK _ _ (Met.intro (hJ _ _ ?_))
              repeat apply Exists.intro
              refine ⟨?_, rfl⟩
              first
                | exact ⟨_, _, rfl, rfl, Lib.hid ⟨(rs_two wr #[.int .i64 x.f0, .slice A1 x.f1.length c1, .slice A2 x.f2.length c2] #[.slice B0 y.f0.length d0, .slice B1 y.f1.length d1, .int .i64 y.f2, .bool y.f3] 77 79).1, (rs_two wr #[.int .i64 x.f0, .slice A1 x.f1.length c1, .slice A2 x.f2.length c2] #[.slice B0 y.f0.length d0, .slice B1 y.f1.length d1, .int .i64 y.f2, .bool y.f3] 77 79).2.1, (rs_two wr #[.int .i64 x.f0, .slice A1 x.f1.length c1, .slice A2 x.f2.length c2] #[.slice B0 y.f0.length d0, .slice B1 y.f1.length d1, .int .i64 y.f2, .bool y.f3] 77 79).2.2.drew⟩⟩
                | exact ⟨_, _, rfl, rfl, Lib.hid ⟨(rs_two wr #[.slice B0 y.f0.length d0, .slice B1 y.f1.length d1, .int .i64 y.f2, .bool y.f3] #[.int .i64 x.f0, .slice A1 x.f1.length c1, .slice A2 x.f2.length c2] 79 77).2.1, (rs_two wr #[.slice B0 y.f0.length d0, .slice B1 y.f1.length d1, .int .i64 y.f2, .bool y.f3] #[.int .i64 x.f0, .slice A1 x.f1.length c1, .slice A2 x.f2.length c2] 79 77).1, (rs_two wr #[.slice B0 y.f0.length d0, .slice B1 y.f1.length d1, .int .i64 y.f2, .bool y.f3] #[.int .i64 x.f0, .slice A1 x.f1.length c1, .slice A2 x.f2.length c2] 79 77).2.2.drew⟩⟩)
          case rest =>
            obtain ⟨g, h, rfl, rfl, HC⟩ := hcut
            have q1 := HC.out.g1
            go_upto_region 15 with (go_at_call 35; (with_reducible refine (find_calls o (Kd.F_now (Kd.F_below HMW.out.2 HC.out.2.2)) HMW.out.1 (Kd.F_now (Kd.F_below HFX.out.1 HC.out.2.2)) HFX.out.2.2.1 (by have := HXL.out.1; omega) (fun z hz => by have := HRM.out.2.2 z hz; omega) (by have := HRM.out.1; omega)).mono ?_); rintro e w5 ⟨rfl, hb5⟩; have HR := Lib.hid (HC.out.then_ hb5))
            clear q1
            have hhit := HHIT.out
            have hpl := findL_le (cmpO o) x.f1 (kvC m)
            rw [kvC_len] at hpl
            generalize findL (cmpO o) x.f1 (kvC m) = p at *
            generalize hitL (cmpO o) x.f1 (kvC m) = ht at *
            have HPL := Lib.hid hpl
            generalize hz : m.getD p (⟨[], []⟩ : S36) = z at *
            have HZ := Lib.hid hz
            have HH2 := Lib.hid hhit
            clear hz hpl hhit HHIT
            go_cut [11] (fun v11 wd => v11 = .bool ht ∧ Hid (RdAt wr g h A1 c1 A2 c2 x B0 d0 B1 d1 y wd))
            case first =>
              by_cases hp : p < m.length
              · obtain ⟨am, K1, kc, V1, vc, hAm, u0, -, hKF, -, hkc, -⟩ := cp_at (Kd.F_below HMW.out.2 HR.out.2.2) hp HZ.out
                subst hAm
                have hht := HH2.out
                rw [decide_eq_true hp, Bool.true_and] at hht
                have v0 : decide ((p : Int) < (m.length : Int)) = true := decide_eq_true (by omega)
                have v1 : (p : Int) < (m.length : Int) := by omega
                have q1 := HR.out.g1
                have SK : Hid (∀ W, Below w5.heap.size w5 W → Calls Tryz.prog 20 #[.slice K1 z.f0.length kc, .slice A1 x.f1.length c1] W fun e w' => e = .returned (.bool ht) ∧ Below W.heap.size W w') := Lib.hid (fun W hW => by
                  rw [hht]
                  exact same_calls (Kd.F_now (Kd.F_below hKF hW)) hkc (Kd.F_now (Kd.F_below (Kd.F_below HFX.out.1 HR.out.2.2) hW)) HFX.out.2.2.1)
                clear hKF hkc hht hp
                have D0 := cell_regrown u0
                have D1 := cell_regrown q1
                have HW : ∀ d os, Hid (Below w5.heap.size w5 (grow (redrawn w5 d) os)) := fun d os => below_regrown w5 d os
                refine wp_region_quiet_below (by kernel_rfl) (by kernel_rfl) ?_
                repeat (go_big_quiet_step (with_reducible refine Calls.regrown_of (SK.out _ (HW _ _).out)))
                refine wpQuiet_nil ?_
                intro _ hw'
                obtain ⟨⟨dq, osq⟩, hw2⟩ := hw'
                subst hw2
                have HRW := Lib.hid (HR.out.then_ (HW dq osq).out)
                clear D0 D1 HW
                generalize grow (redrawn w5 dq) osq = W at *
                go_wp2
                go_meet
                case rel => exact ⟨rfl, HRW⟩
              · have hht := HH2.out
                rw [decide_eq_false hp, Bool.false_and] at hht
                subst hht
                have v0 : decide ((p : Int) < (m.length : Int)) = false := decide_eq_false (by omega)
                have v1 : ¬ (p : Int) < (m.length : Int) := by omega
                have q1 := HR.out.g1
                clear hp
                have D0 := cell_regrown q1
                have HW : ∀ d os, Hid (Below w5.heap.size w5 (grow (redrawn w5 d) os)) := fun d os => below_regrown w5 d os
                refine wp_region_quiet_below (by kernel_rfl) (by kernel_rfl) ?_
                repeat (go_big_quiet_step (fail))
                refine wpQuiet_nil ?_
                intro _ hw'
                obtain ⟨⟨dq, osq⟩, hw2⟩ := hw'
                subst hw2
                have HRW := Lib.hid (HR.out.then_ (HW dq osq).out)
                clear D0 HW
                generalize grow (redrawn w5 dq) osq = W at *
                go_wp2
                go_meet
                case rel => exact ⟨rfl, HRW⟩
            case rest =>
              obtain ⟨rfl, HR2⟩ := hcut
              have q0 := HR2.out.g0
              go_upto_block 2 with (fail)
              go_cut [6, 12] (fun v6 v12 we => ∃ (A7 : Option Addr) (c7 : Nat), v6 = .slice A7 r.length c7 ∧ v12 = .bool true ∧ Hid (LsAt we A7 c7 r) ∧ Hid (Below wr.heap.size wr we))
              case first =>
                have q1 := HR2.out.g1
                have q2 := HR2.out.g2
                have p0 := HR2.out.h0
                have p1 := HR2.out.h1
                have p2 := HR2.out.h2
                have p3 := HR2.out.h3
                clear q0
                by_cases a0 : x.f0 = 0
                · have y0 : (x.f0 == 0) = true := by rw [beq_iff_eq]; exact a0
                  have e3 := HAA.out.1 a0
                  have hr := HSA.out.1 a0
                  rw [e3] at p3
                  clear a0
                  go_wp2_with (go_at_call 31; (with_reducible refine (cput_calls (ok := fun k => k < wr.heap.size) o (Kd.F_below HMW.out.2 HR2.out.2.2) rfl HMW.out.1 (fun k hk => Nat.lt_of_lt_of_le hk HR2.out.2.2.size) (Kd.F_below HFX.out.1 HR2.out.2.2) HFX.out.2.2.1 (Kd.F_below HFX.out.2.1 HR2.out.2.2) HFX.out.2.2.2 (by have := HXL.out.1; omega) (fun z hz => by have := HRM.out.2.2 z hz; omega) (by have := HRM.out.1; omega)).mono ?_); rintro e w7 ⟨v7, rfl, hN7, hb7⟩; obtain ⟨A7, c7, rfl⟩ := Kd.N_slice hN7; have p3' := pw_cell_below hb7 p3)
                  go_meet
                  case rel => exact ⟨A7, c7, by rw [hr], rfl, Lib.hid (by rw [hr]; exact ⟨(Kd.N_reads' hN7).2.1, Kd.F_mono (Kd.F_bound (Kd.N_F hN7)) (fun k hk => hk.2)⟩), Lib.hid (HR2.out.2.2.trans (hb7.mono HR2.out.2.2.size))⟩
                · have y0 : (x.f0 == 0) = false := by rw [beq_eq_false_iff_ne]; exact a0
                  by_cases a1 : x.f0 = 1
                  · have y1 : (x.f0 == 1) = true := by rw [beq_iff_eq]; exact a1
                    have e3 := HAA.out.2.1 a1
                    have hr := HSA.out.2.1 a1
                    rw [e3] at p3
                    clear a0 a1
                    cases ht
                    all_goals (
                      go_wp2_with (go_at_call 41; (with_reducible refine (cdrop_calls (ok := fun k => k < wr.heap.size) o (Kd.F_below HMW.out.2 HR2.out.2.2) rfl HMW.out.1 (Kd.F_below HFX.out.1 HR2.out.2.2) HFX.out.2.2.1 (by have := HXL.out.1; omega) (fun z hz => by have := HRM.out.2.2 z hz; omega) (by have := HRM.out.1; omega)).mono ?_); rintro e w7 ⟨A7, c7, rfl, hl7, hF7, hb7⟩; have p3' := pw_cell_below hb7 p3)
                      go_meet
                      case rel => exact ⟨A7, c7, by rw [hr], rfl, Lib.hid (by rw [hr]; exact ⟨hl7, Kd.F_mono (Kd.F_bound hF7) (fun k hk => hk.2)⟩), Lib.hid (HR2.out.2.2.trans (hb7.mono HR2.out.2.2.size))⟩)
                  · have y1 : (x.f0 == 1) = false := by rw [beq_eq_false_iff_ne]; exact a1
                    by_cases a2 : x.f0 = 2
                    · have y2 : (x.f0 == 2) = true := by rw [beq_iff_eq]; exact a2
                      have e3 := (HAA.out.2.2.1 a2).1
                      have e1 := (HAA.out.2.2.1 a2).2
                      have hr := HSA.out.2.2.1 (.inl a2)
                      rw [e3] at p3
                      clear a0 a1 a2
                      go_upto_region 26 with (fail)
                      cases ht with
                      | true =>
                        have hp : p < m.length := by
                          have := HH2.out.symm
                          rw [Bool.and_eq_true] at this
                          exact of_decide_eq_true this.1
                        have e1' := e1 rfl
                        have HFYY := Lib.hid HFY.out.2
                        rw [e1'] at p1 HFYY
                        obtain ⟨am, K1, kc, V1, vc, hAm, -, u1, -, hVF, -, hvc⟩ := cp_at (Kd.F_below HMW.out.2 HR2.out.2.2) hp HZ.out
                        subst hAm
                        have v1 : (p : Int) < (m.length : Int) := by omega
                        have SK : Hid (∀ W, Below wc.heap.size wc W → Calls Tryz.prog 20 #[.slice B1 z.f1.length d1, .slice V1 z.f1.length vc] W fun e w' => e = .returned (.bool true) ∧ Below W.heap.size W w') := Lib.hid (fun W hW => by
                          have := same_calls (Kd.F_now (Kd.F_below (Kd.F_below HFYY.out.1 HR2.out.2.2) hW)) HFYY.out.2.2 (Kd.F_now (Kd.F_below hVF hW)) hvc
                          rw [decide_eq_true rfl] at this
                          exact this)
                        clear hVF hvc hp e1 e1' p0 p2 q1 q2
                        have D0 := cell_regrown u1
                        have D1 := cell_regrown p3
                        have D2 := cell_regrown p1
                        have HW : ∀ d os, Hid (Below wc.heap.size wc (grow (redrawn wc d) os)) := fun d os => below_regrown wc d os
                        refine wp_region_quiet_below (by kernel_rfl) (by kernel_rfl) ?_
                        repeat (go_big_quiet_step (with_reducible refine Calls.regrown_of (SK.out _ (HW _ _).out)))
                        refine wpQuiet_nil ?_
                        intro _ hw'
                        obtain ⟨⟨dq, osq⟩, hw2⟩ := hw'
                        subst hw2
                        have HRW := Lib.hid (HR2.out.then_ (HW dq osq).out)
                        clear D0 D1 D2 HW
                        generalize grow (redrawn wc dq) osq = W at *
                        go_wp2
                        go_meet
                        case rel => exact ⟨some am, c6, by rw [hr], rfl, Lib.hid (by rw [hr]; exact HMW.out.below HRW.out.2.2), Lib.hid HRW.out.2.2⟩
                      | false =>
                        clear p1 e1 p0 p2 q1 q2
                        have D0 := cell_regrown p3
                        have HW : ∀ d os, Hid (Below wc.heap.size wc (grow (redrawn wc d) os)) := fun d os => below_regrown wc d os
                        refine wp_region_quiet_below (by kernel_rfl) (by kernel_rfl) ?_
                        repeat (go_big_quiet_step (fail))
                        refine wpQuiet_nil ?_
                        intro _ hw'
                        obtain ⟨⟨dq, osq⟩, hw2⟩ := hw'
                        subst hw2
                        have HRW := Lib.hid (HR2.out.then_ (HW dq osq).out)
                        clear D0 HW
                        generalize grow (redrawn wc dq) osq = W at *
                        go_wp2
                        go_meet
                        case rel => exact ⟨A6, c6, by rw [hr], rfl, Lib.hid (by rw [hr]; exact HMW.out.below HRW.out.2.2), Lib.hid HRW.out.2.2⟩
                    · have y2 : (x.f0 == 2) = false := by rw [beq_eq_false_iff_ne]; exact a2
                      by_cases a3 : x.f0 = 3
                      · have y3 : (x.f0 == 3) = true := by rw [beq_iff_eq]; exact a3
                        have e3 := HAA.out.2.2.2.1 a3
                        have hr := HSA.out.2.2.1 (.inr (.inl a3))
                        rw [e3] at p3
                        clear a0 a1 a2 a3
                        have HR3 := HR2
                        cases ht
                        all_goals (
                          go_wp2
                          go_meet
                          case rel => exact ⟨A6, c6, by rw [hr], rfl, Lib.hid (by rw [hr]; exact HMW.out.below HR3.out.2.2), Lib.hid HR3.out.2.2⟩)
                      · have y3 : (x.f0 == 3) = false := by rw [beq_eq_false_iff_ne]; exact a3
                        by_cases a4 : x.f0 = 4
                        · have y4 : (x.f0 == 4) = true := by rw [beq_iff_eq]; exact a4
                          have e3 := (HAA.out.2.2.2.2.1 a4).1
                          have e1 := (HAA.out.2.2.2.2.1 a4).2
                          have hr := HSA.out.2.2.1 (.inr (.inr (.inl a4)))
                          rw [e3] at p3
                          clear a0 a1 a2 a3 a4
                          go_upto_region 30 with (fail)
                          by_cases hp : p < m.length
                          · have e1' := e1 hp
                            have HFYY := HFY
                            rw [e1'.1, e1'.2] at HFYY
                            rw [e1'.1] at p0
                            rw [e1'.2] at p1
                            rw [decide_eq_true hp] at p3
                            obtain ⟨am, K1, kc, V1, vc, hAm, u0, u1, hKF, hVF, hkc, hvc⟩ := cp_at (Kd.F_below HMW.out.2 HR2.out.2.2) hp HZ.out
                            subst hAm
                            have v0 : decide ((p : Int) < (m.length : Int)) = true := decide_eq_true (by omega)
                            have v1 : (p : Int) < (m.length : Int) := by omega
                            have SK : Hid (∀ W, Below wc.heap.size wc W → Calls Tryz.prog 20 #[.slice B0 z.f0.length d0, .slice K1 z.f0.length kc] W fun e w' => e = .returned (.bool true) ∧ Below W.heap.size W w') := Lib.hid (fun W hW => by
                              have := same_calls (Kd.F_now (Kd.F_below (Kd.F_below HFYY.out.1 HR2.out.2.2) hW)) HFYY.out.2.2.1 (Kd.F_now (Kd.F_below hKF hW)) hkc
                              rw [decide_eq_true rfl] at this
                              exact this)
                            have SV : Hid (∀ W, Below wc.heap.size wc W → Calls Tryz.prog 20 #[.slice B1 z.f1.length d1, .slice V1 z.f1.length vc] W fun e w' => e = .returned (.bool true) ∧ Below W.heap.size W w') := Lib.hid (fun W hW => by
                              have := same_calls (Kd.F_now (Kd.F_below (Kd.F_below HFYY.out.2.1 HR2.out.2.2) hW)) HFYY.out.2.2.2 (Kd.F_now (Kd.F_below hVF hW)) hvc
                              rw [decide_eq_true rfl] at this
                              exact this)
                            clear hKF hVF hkc hvc hp e1 e1' p2 q1 q2
                            have D0 := cell_regrown u0
                            have D1 := cell_regrown u1
                            have D2 := cell_regrown p3
                            have D3 := cell_regrown p0
                            have D4 := cell_regrown p1
                            have HW : ∀ d os, Hid (Below wc.heap.size wc (grow (redrawn wc d) os)) := fun d os => below_regrown wc d os
                            refine wp_region_quiet_below (by kernel_rfl) (by kernel_rfl) ?_
                            repeat (go_big_quiet_step (first | (with_reducible refine Calls.regrown_of (SK.out _ (HW _ _).out)) | (with_reducible refine Calls.regrown_of (SV.out _ (HW _ _).out))))
                            refine wpQuiet_nil ?_
                            intro _ hw'
                            obtain ⟨⟨dq, osq⟩, hw2⟩ := hw'
                            subst hw2
                            have HRW := Lib.hid (HR2.out.then_ (HW dq osq).out)
                            clear D0 D1 D2 D3 D4 HW
                            generalize grow (redrawn wc dq) osq = W at *
                            go_wp2
                            go_meet
                            case rel => exact ⟨some am, c6, by rw [hr], rfl, Lib.hid (by rw [hr]; exact HMW.out.below HRW.out.2.2), Lib.hid HRW.out.2.2⟩
                          · rw [decide_eq_false hp] at p3
                            have v0 : decide ((p : Int) < (m.length : Int)) = false := decide_eq_false (by omega)
                            have v1 : ¬ (p : Int) < (m.length : Int) := by omega
                            clear p1 e1 p0 p2 q1 q2
                            have D0 := cell_regrown p3
                            have HW : ∀ d os, Hid (Below wc.heap.size wc (grow (redrawn wc d) os)) := fun d os => below_regrown wc d os
                            refine wp_region_quiet_below (by kernel_rfl) (by kernel_rfl) ?_
                            repeat (go_big_quiet_step (fail))
                            refine wpQuiet_nil ?_
                            intro _ hw'
                            obtain ⟨⟨dq, osq⟩, hw2⟩ := hw'
                            subst hw2
                            have HRW := Lib.hid (HR2.out.then_ (HW dq osq).out)
                            clear D0 HW
                            generalize grow (redrawn wc dq) osq = W at *
                            go_wp2
                            go_meet
                            case rel => exact ⟨A6, c6, by rw [hr], rfl, Lib.hid (by rw [hr]; exact HMW.out.below HRW.out.2.2), Lib.hid HRW.out.2.2⟩
                        · have y4 : (x.f0 == 4) = false := by rw [beq_eq_false_iff_ne]; exact a4
                          by_cases a5 : x.f0 = 5
                          · have y5 : (x.f0 == 5) = true := by rw [beq_iff_eq]; exact a5
                            have e2 := HAA.out.2.2.2.2.2.1 a5
                            have hr := HSA.out.2.2.1 (.inr (.inr (.inr (.inl a5))))
                            rw [e2] at p2
                            clear a0 a1 a2 a3 a4 a5
                            have HR3 := HR2
                            have v0 : ((m.length : Int) == (m.length : Int)) = true := by rw [beq_iff_eq]
                            go_wp2
                            go_meet
                            case rel => exact ⟨A6, c6, by rw [hr], rfl, Lib.hid (by rw [hr]; exact HMW.out.below HR3.out.2.2), Lib.hid HR3.out.2.2⟩
                          · have y5 : (x.f0 == 5) = false := by rw [beq_eq_false_iff_ne]; exact a5
                            by_cases a6 : x.f0 = 6
                            · have y6 : (x.f0 == 6) = true := by rw [beq_iff_eq]; exact a6
                              have e2 := HAA.out.2.2.2.2.2.2 a6
                              have hr := HSA.out.2.2.1 (.inr (.inr (.inr (.inr a6))))
                              rw [e2] at p2
                              clear a0 a1 a2 a3 a4 a5 a6
                              have v0 : ((wtL (kvC m) : Int) == (wtL (kvC m) : Int)) = true := by rw [beq_iff_eq]
                              have SK : Hid (∀ W, Below wc.heap.size wc W → Calls Tryz.prog 42 #[.slice A6 m.length c6] W fun e w' => e = .returned (.int .i64 (wtL (kvC m) : Int)) ∧ Below W.heap.size W w') := Lib.hid (fun W hW => weight_calls (Kd.F_now (Kd.F_below (Kd.F_below HMW.out.2 HR2.out.2.2) hW)) rfl HMW.out.1 (by have := HRM.out.1; omega) (by have := HRM.out.2.1; omega))
                              go_upto_region 34 with (fail)
                              have D0 := cell_regrown p2
                              have HW : ∀ d os, Hid (Below wc.heap.size wc (grow (redrawn wc d) os)) := fun d os => below_regrown wc d os
                              refine wp_region_quiet_below (by kernel_rfl) (by kernel_rfl) ?_
                              repeat (go_big_quiet_step (with_reducible refine Calls.regrown_of (SK.out _ (HW _ _).out)))
                              refine wpQuiet_nil ?_
                              intro _ hw'
                              obtain ⟨⟨dq, osq⟩, hw2⟩ := hw'
                              subst hw2
                              have HRW := Lib.hid (HR2.out.then_ (HW dq osq).out)
                              clear D0 HW
                              generalize grow (redrawn wc dq) osq = W at *
                              go_wp2
                              go_meet
                              case rel => exact ⟨A6, c6, by rw [hr], rfl, Lib.hid (by rw [hr]; exact HMW.out.below HRW.out.2.2), Lib.hid HRW.out.2.2⟩
                            · have y6 : (x.f0 == 6) = false := by rw [beq_eq_false_iff_ne]; exact a6
                              have hr := HSA.out.2.2.2 ⟨a0, a1, a2, a3, a4, a5, a6⟩
                              clear a0 a1 a2 a3 a4 a5 a6
                              go_wp2
                              go_meet
                              case rel => exact ⟨none, 0, by rw [hr]; rfl, rfl, Lib.hid (by rw [hr]; exact ⟨Nat.le_refl _, fun W' _ => Kd.C_nil _ _⟩), Lib.hid HR2.out.2.2⟩
              case rest =>
                obtain ⟨A7, c7, rfl, rfl, HM7, HB7⟩ := hcut
                clear q0
                go_wp2
                go_roundg (gk - 1)
                case measure => exact round_less HJL.out.1 HJL.out.2
                case rel =>
                  exact ⟨j + 1, A7, c7, by first | rfl | exact congrArg _ w1', by rw [HMQ.out], Lib.hid (round_next HJL.out.1 HJL.out.2), Lib.hid (by rw [HMQ.out]; exact HM7.out), Lib.hid (HBW.out.trans (HB7.out.mono HBW.out.size))⟩
        · have z0 : decide ((j : Int) < (n : Int)) = false := decide_eq_false (by omega)
          have HB5 := Lib.hid (HB3.out.trans (HBW.out.mono HB3.out.size))
          go_wp2_with (go_at_call 28; (with_reducible refine walkAwake_calls.mono ?_); rintro e w10 ⟨rfl, hb10⟩; have HB10 := Lib.hid (HB5.out.trans (hb10.mono HB5.out.size)))
          go_ret
          exact ⟨rfl, HB10.out⟩

end Go.Proofs.YtdkkkikcigjlhaaGreatDoor.Md

namespace Go.Proofs.YtdkkkikcigjlhaaGreatDoor.Md
open Go.RowKit Go.Proofs.YtdkkkikcigjlhaaGreatDoor.Open Go.Proofs.YtdkkkikcigjlhaaGreatDoorW.PrintWords Go.Proofs.YtdkkkikcigjlhaaGreatDoor.Cmp Go.Proofs.YtdkkkikcigjlhaaGreatDoor.PFnMemMap

set_option maxRecDepth 100000 in
theorem mop_pair : Opens Tryz.prog 77 (Kd.pair (Kd.int .i64) (Kd.pair (Kd.slice 5 (Kd.int .u8)) (Kd.slice 5 (Kd.int .u8)))) (fun x => (Lit.int .i64 x.1).wf = true ∧ U8ok x.2.1 ∧ U8ok x.2.2) :=
  (opens_struct (ok := _) Tryz.underlying77 (by kernel_rfl) (opensFs_cons (ok := fun n => (Lit.int .i64 n).wf = true) (ok' := _) (d := Kd.int .i64) (d' := _) rfl (by kernel_rfl) (opens_int Tryz.underlying3) (opensFs_cons (ok := U8ok) (ok' := U8ok) (d := Kd.slice 5 (Kd.int .u8)) (d' := Kd.slice 5 (Kd.int .u8)) rfl (by kernel_rfl) bytes_opens (opensFs_last rfl (by kernel_rfl) bytes_opens))))
theorem mop_opens : Opens Tryz.prog 77 k77 (fun x => (Lit.int .i64 x.f0).wf = true ∧ (∀ z ∈ x.f1, (Lit.int .u8 z).wf = true) ∧ (∀ z ∈ x.f2, (Lit.int .u8 z).wf = true)) :=
  opens_iso mop_pair (fun x : S77 => (x.f0, x.f1, x.f2)) (fun a => ⟨a.1, a.2.1, a.2.2⟩) (fun _ => rfl)
abbrev OpsK : Kd (List S77) := Kd.slice 77 k77
theorem mops_opens : Opens Tryz.prog 72 OpsK (fun xs => ∀ x ∈ xs, (Lit.int .i64 x.f0).wf = true ∧ (∀ z ∈ x.f1, (Lit.int .u8 z).wf = true) ∧ (∀ z ∈ x.f2, (Lit.int .u8 z).wf = true)) := opens_slice Tryz.underlying72 (by kernel_rfl) mop_opens

theorem gE : Tryz.prog.globalNamed "pub-lockfold/pub/goleveldb/leveldb/errors.ErrNotFound" = some 0 := by kernel_rfl
theorem gET : (Tryz.prog.globals[0]?).map (·.type) = some 93 := by kernel_rfl
theorem starE : "*" ++ "errors.errorString" = "*errors.errorString" := by decide
theorem rowE (u : TypeId) (h : Tryz.prog.typeName? 3 u = some "*errors.errorString") : u = 271 :=
  typeName_ptr_named (nm := "errors.errorString") (by rw [starE]; kernel_rfl) (by kernel_rfl) (by decide) u (by rw [starE]; exact h)

theorem er_cell {W : World} (h : laidMetH Tryz.prog Rows.fnMemMapRow.laid W) : ∃ (Te : Nat) (ae : Addr), W.cell? ⟨0, 0, none⟩ = some (.iface Te (.pointer (some ae))) := by
  have h1 := (laidMetH_iff.1 h).1
  have e : (Rows.fnMemMapRow.laid.filter fun x => x.2.handleName?.isNone) = ("pub-lockfold/pub/goleveldb/leveldb/errors.ErrNotFound", .iface "*errors.errorString" (.ptr (.agg [.lit (.string [108, 101, 118, 101, 108, 100, 98, 58, 32, 110, 111, 116, 32, 102, 111, 117, 110, 100])]))) :: (Rows.fnMemMapRow.laid.filter fun x => x.2.handleName?.isNone).tail := by kernel_rfl
  rw [e] at h1
  obtain ⟨a0, s0, hv0, -, -, -⟩ := laid_sentinel h1 gE gET Tryz.underlying93 rowE Tryz.underlying271 Tryz.underlying308 rfl rfl Tryz.underlying9 (by kernel_rfl) (by kernel_rfl)
  exact ⟨_, a0, by have h0 := World.var?_cell gE hv0 0; simpa using h0⟩

theorem memMap_row (o : Int) (A : Option Addr) (n c : Nat) (l : List S77) (w : World) (w0 : (Lit.int .i64 o).wf = true)
    (h : OpsK.K w l [.slice A n c]) (ho : ∀ x ∈ l, (Lit.int .i64 x.f0).wf = true ∧ (∀ z ∈ x.f1, (Lit.int .u8 z).wf = true) ∧ (∀ z ∈ x.f2, (Lit.int .u8 z).wf = true)) (hL : laidMetH Tryz.prog Rows.fnMemMapRow.laid w) :
    Calls Tryz.prog 8 #[.int .i64 o, .slice A n c] w fun x w' => x = .returned (.bool true) ∧ Below w.heap.size w w' := by
  obtain ⟨A', c', he, hc, hC⟩ := h
  injection he with he _
  injection he with e1 e2 e3
  subst e1 e2 e3
  obtain ⟨Te, ae, hE⟩ := er_cell hL
  exact memMap_law o hC hc (fun x hx => ⟨r_byt (ho x hx).2.1, r_byt (ho x hx).2.2⟩) hE

end Go.Proofs.YtdkkkikcigjlhaaGreatDoor.Md
