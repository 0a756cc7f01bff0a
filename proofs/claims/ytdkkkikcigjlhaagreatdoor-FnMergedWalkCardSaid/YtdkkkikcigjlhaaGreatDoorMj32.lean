/- impl's copied and rising; ArrayWalk. impl's ArrayWalk. The laws' walkAwake: its fixed call answers. The law FnArrayWalk, walked: it answers true, whatever the input. Arguments opened: what a value that reads as data says in the words of Kd (kinds of values), type by type. The walks' arguments, read as data; FnArrayWalk's walk out of them. -/
import Derived.Test.YtdkkkikcigjlhaaGreatDoorMj31
import Derived.Test.YtdkkkikcigjlhaaGreatDoorMj07
import Derived.Test.YtdkkkikcigjlhaaGreatDoorMj29
import Derived.Test.YtdkkkikcigjlhaaGreatDoorMj25
import Derived.Test.YtdkkkikcigjlhaaGreatDoorMj27
import Derived.Test.YtdkkkikcigjlhaaGreatDoorMj30
import Derived.Lib.SlBytesConst
import Derived.Test.YtdkkkikcigjlhaaGreatDoorMj05
import Derived.Deep.Slices
import Derived.WalkKit
import Derived.Below
set_option linter.unusedVariables false
set_option linter.unusedSimpArgs false
namespace Go.Proofs.YtdkkkikcigjlhaaGreatDoor.Md
open Go.RowKit Go.Proofs.YtdkkkikcigjlhaaGreatDoor.Con Go.Proofs.YtdkkkikcigjlhaaGreatDoor.Run Go.Proofs.YtdkkkikcigjlhaaGreatDoorW.PrintWords Go.Proofs.YtdkkkikcigjlhaaGreatDoorW.PrintMore Go.Proofs.YtdkkkikcigjlhaaGreatDoor.Cmp Go.Sort Go.RwLone Go.Proofs.YtdkkkikcigjlhaaGreatDoor.PFnMemMap

theorem rd44 (l : List S44) (i : Nat) (h : i < l.length) : rd_T44 l (i : Int) = l.getD i (⟨[], []⟩ : S44) := by
  simp [rd_T44, List.getD_eq_getElem?_getD, h]

theorem copied_l0 (l : List S44) (hl : l.length ≤ 4294967296) (hx : ∀ x ∈ l, x.f0.length ≤ 4294967296 ∧ x.f1.length ≤ 4294967296) (d : Nat) : ∀ i : Nat, l.length - i = d → i ≤ l.length → ∀ k, d + 1 ≤ k → impl_copied.l0 k (l.take i) l (l.length : Int) (i : Int) = some l := by
  induction d with
  | zero =>
    intro i h1 h2 k hk
    obtain ⟨k, rfl⟩ : ∃ q, k = q + 1 := ⟨k - 1, by omega⟩
    rw [impl_copied.l0, if_neg (by omega), List.take_of_length_le (by omega)]
  | succ d ih =>
    intro i h1 h2 k hk
    obtain ⟨k, rfl⟩ : ∃ q, k = q + 1 := ⟨k - 1, by omega⟩
    have hi : i < l.length := by omega
    have hmem : l.getD i (⟨[], []⟩ : S44) ∈ l := by
      rw [List.getD_eq_getElem?_getD, List.getElem?_eq_getElem hi]
      exact List.getElem_mem _
    have hxi := hx _ hmem
    have htk := take_next hi (⟨[], []⟩ : S44)
    rw [impl_copied.l0, if_pos (by omega), if_pos (by omega), if_pos (by omega)]
    simp only [Option.bind_some]
    rw [rd44 l i hi, if_pos (by simp only [List.length_nil]; omega), if_pos (by simp only [List.length_nil]; omega), if_pos (by rw [List.length_take]; omega)]
    simp only [List.nil_append]
    have hw : wrap64 ((i : Int) + 1) = ((i + 1 : Nat) : Int) := by unfold wrap64; omega
    rw [hw, ← htk]
    exact ih (i + 1) (by omega) (by omega) k (by omega)

def CpTold (l : List S44) (w : World) (e : Ending) (w' : World) : Prop :=
  ∃ A c, e = .returned (.slice A l.length c) ∧ l.length ≤ c ∧ Kd.F k44 w' (fun k => w.heap.size ≤ k ∧ k < w'.heap.size) A l.length l ∧ Below w.heap.size w w'

theorem copied_calls {w : World} {A : Option Addr} {c : Nat} {l : List S44} (hA : Kd.C k44 w A l.length l) (hc : l.length ≤ c) (hl : l.length ≤ 4294967296) (hx : ∀ x ∈ l, x.f0.length ≤ 4294967296 ∧ x.f1.length ≤ 4294967296) :
    Calls Tryz.prog 60 #[.slice A l.length c] w fun e w' => CpTold l w e w' := by
  have h := copied_l0 l hl hx l.length 0 (by omega) (by omega) _ (Nat.le_refl _)
  refine (impl_copied.calls (l.length + 1) A c l l w hA hc h).mono ?_
  rintro e w' ⟨v, rfl, hS, hb⟩
  have hS2 := Kd.S_mono (Kd.S_bound hS) (ok' := fun k => w.heap.size ≤ k ∧ k < w'.heap.size) (fun k hk => ⟨hk.2.1, hk.2.2.1⟩)
  obtain ⟨A', c', rfl⟩ := Kd.S_slice hS2
  exact ⟨A', c', rfl, (Kd.S_reads' hS2).2.1, Kd.S_F hS2, hb⟩

theorem key_at {w : World} {ok : Nat → Prop} {A : Option Addr} {n : Nat} {l : List S44} (h : Kd.F k44 w ok A n l) {j : Nat} (hj : j < n) {x : S44} (hx : l.getD j (⟨[], []⟩ : S44) = x) :
    ∃ ad A1 c1, A = some ad ∧ w.cell? (ad.add (j * 2)) = some (.slice A1 x.f0.length c1) ∧ Kd.F (Kd.int .u8) w ok A1 x.f0.length x.f0 := by
  obtain ⟨ad, cs', rfl, hcl, hK, hcell, hokb⟩ := Kd.F_get h (⟨[], []⟩ : S44) (j : Int) (Int.natCast_nonneg _) (by omega)
  obtain ⟨A1, c1, A2, c2, rfl, hl1, hF1, hl2, hF2⟩ := k44_openF hK
  have r0 := hcell 0 _ rfl
  rw [Int.toNat_natCast, hx] at r0 hF1
  exact ⟨ad, A1, c1, rfl, r0, hF1⟩

theorem kvS_at (l : List S44) {j : Nat} (hj : j < l.length) : ((kvS l).getD j ([], [])).1 = (l.getD j (⟨[], []⟩ : S44)).f0 := by
  simp [kvS, List.getD_eq_getElem?_getD, List.getElem?_eq_getElem hj]

set_option maxHeartbeats 3200000 in
set_option maxRecDepth 100000 in
theorem rising_calls {V : Value} {f : List Int → List Int → Int} {A : Option Addr} {n c : Nat} {l : List S44} {ok : Nat → Prop} {w : World} (hV : Cmpr V f) (hn : l.length = n) (hl : n ≤ 4294967296) (hF : Kd.F k44 w ok A n l) (hb : ∀ x ∈ l, Byt x.f0) :
    Calls Tryz.prog 59 #[V, .slice A n c] w fun e w' => e = .returned (.bool (risesL f (kvS l))) ∧ Below w.heap.size w w' := by
  obtain ⟨T, u, K, rfl, hnil, hmeth, hcall, hcmp⟩ := hV.make
  have HF := Lib.hid hF
  have HN := Lib.hid (And.intro hn (And.intro hl hb))
  have HCMP := Lib.hid hcmp
  clear hV hn hl hF hb hcmp
  go_enter Tryz.func59, Tryz.ntmps59
  go_wp2
  go_loopg [5] n (fun k v5 w' => ∃ i m : Nat, v5 = .int .i64 (i : Int) ∧ Hid (i = m + 1 ∧ n ≤ i + k ∧ i ≤ n + 1) ∧ Hid (risesL f (kvS l) = risesL f ((kvS l).drop m)) ∧ Hid (Below w.heap.size w w'))
  case atStart => exact ⟨1, 0, rfl, Lib.hid ⟨rfl, by omega, by omega⟩, Lib.hid (by rw [List.drop_zero]), Lib.hid (Below.refl _ _)⟩
  case round =>
    obtain ⟨i, m, rfl, HI, HR, HBL⟩ := hrel
    by_cases hj : i < n
    · have hFr : Kd.F k44 wr ok A n l := Kd.F_below HF.out HBL.out
      have hst := rises_step f (kvS l) m (by rw [kvS_len, HN.out.1, ← HI.out.1]; exact hj)
      have hm : m < n := by have := HI.out.1; omega
      have e1 := kvS_at l (j := m) (by rw [HN.out.1]; exact hm)
      have e2 := kvS_at l (j := m + 1) (by rw [HN.out.1, ← HI.out.1]; exact hj)
      rw [e1, e2, ← HI.out.1] at hst
      obtain ⟨ad, A1, c1, rfl, r0, hF1⟩ := key_at hFr hm rfl
      obtain ⟨ad', A2, c2, ha, r1, hF2⟩ := key_at hFr hj rfl
      injection ha with ha
      subst ha
      have hmx : l.getD m (⟨[], []⟩ : S44) ∈ l := by
        rw [List.getD_eq_getElem?_getD, List.getElem?_eq_getElem (by rw [HN.out.1]; exact hm)]
        exact List.getElem_mem _
      have hmy : l.getD i (⟨[], []⟩ : S44) ∈ l := by
        rw [List.getD_eq_getElem?_getD, List.getElem?_eq_getElem (by rw [HN.out.1]; exact hj)]
        exact List.getElem_mem _
      have BX := Lib.hid (HN.out.2.2 _ hmx)
      have BY := Lib.hid (HN.out.2.2 _ hmy)
      generalize l.getD m (⟨[], []⟩ : S44) = x at *
      generalize l.getD i (⟨[], []⟩ : S44) = y at *
      have HF1 := Lib.hid hF1
      have HF2 := Lib.hid hF2
      have HST := Lib.hid hst
      have z0 : decide ((i : Int) < (n : Int)) = true := decide_eq_true (by omega)
      have b0 : (i : Int) < (n : Int) := by omega
      have b1 : (m : Int) < (n : Int) := by omega
      have w0 : wrap64 ((i : Int) - 1) = (m : Int) := by have := HI.out.1; have := HN.out.2.1; unfold wrap64; omega
      have w0' : IntKind.i64.wrap ((i : Int) - 1) = (m : Int) := by have := HI.out.1; have := HN.out.2.1; rw [IntKind.wrap_i64]; omega
      have w1' : wrap64 ((i : Int) + 1) = (i : Int) + 1 := wz (by omega) (by have := HN.out.2.1; omega)
      have HJL := Lib.hid hj
      clear hFr hst hm e1 e2 hmx hmy hF1 hF2
      go_upto_region 4 with (fail)
      have D0 := cell_regrown r0
      have D1 := cell_regrown r1
      have HW : ∀ d os, Hid (Below wr.heap.size wr (grow (redrawn wr d) os)) := fun d os => below_regrown wr d os
      have HK : ∀ W, Below wr.heap.size wr W → Hid (Kd.C (Kd.int .u8) W A1 x.f0.length x.f0) := fun W hW => Lib.hid (Kd.F_now (Kd.F_below HF1.out hW))
      have HA2 : ∀ W, Below wr.heap.size wr W → Hid (Kd.C (Kd.int .u8) W A2 y.f0.length y.f0) := fun W hW => Lib.hid (Kd.F_now (Kd.F_below HF2.out hW))
      refine wp_region_quiet_below (by kernel_rfl) (by kernel_rfl) ?_
      repeat (go_big_quiet_step (with_reducible refine Calls.regrown_of (HCMP.out _ _ _ _ _ _ _ _ _ (HK _ (HW _ _).out).out (HA2 _ (HW _ _).out).out BX.out BY.out)))
      refine wpQuiet_nil ?_
      intro _ hw'
      obtain ⟨⟨dq, osq⟩, hw''⟩ := hw'
      subst hw''
      have HBW := Lib.hid (HBL.out.trans ((HW dq osq).out.mono HBL.out.size))
      clear D0 D1 HW HK HA2
      generalize grow (redrawn wr dq) osq = W at *
      by_cases hneg : f x.f0 y.f0 < 0
      · have z1 : decide (0 ≤ f x.f0 y.f0) = false := decide_eq_false (by omega)
        have HNEG := Lib.hid hneg
        go_wp2
        go_roundg (gk - 1)
        case measure => have := HI.out; have := HJL.out; omega
        case rel => exact ⟨i + 1, i, (by first | rfl | exact congrArg _ w1'), Lib.hid ⟨rfl, by have := HI.out; omega, by have := HJL.out; omega⟩, Lib.hid (by rw [HR.out, HST.out, decide_eq_true (by have := HNEG.out; omega), Bool.true_and]), HBW⟩
      · have z1 : decide (0 ≤ f x.f0 y.f0) = true := decide_eq_true (by omega)
        have HNEG := Lib.hid hneg
        go_wp2
        go_ret
        have e : risesL f (kvS l) = false := by rw [HR.out, HST.out, decide_eq_false (by have := HNEG.out; omega), Bool.false_and]
        exact ⟨by rw [e]; rfl, HBW.out⟩
    · have z0 : decide ((i : Int) < (n : Int)) = false := decide_eq_false (by omega)
      have hr := rises_end f (kvS l) m (by have := HI.out; have := HN.out.1; rw [kvS_len]; omega)
      have HE := Lib.hid hr
      clear hr
      go_wp2
      go_ret
      exact ⟨by rw [HR.out, HE.out]; rfl, HBL.out⟩

def AwTold (f : List Int → List Int → Int) (l : List S44) (ms : List S104) (w : World) (e : Ending) (w' : World) : Prop :=
  Below w.heap.size w w' ∧ ((risesL f (kvS l) = true ∧ ∃ v, e = .returned (.tuple #[v, .bool true]) ∧ Kd.N k121 121 w' w.heap.size (fun k => w.heap.size ≤ k) v (atsL f (kvS l) (-1) ms)) ∨ (risesL f (kvS l) = false ∧ e = .returned (.tuple #[.slice none 0 0, .bool false])))

theorem kvS_all {l : List S44} (h : ∀ x ∈ l, x.f0.length ≤ 4294967296 ∧ x.f1.length ≤ 4294967296) : ∀ x ∈ kvS l, x.1.length ≤ 4294967296 ∧ x.2.length ≤ 4294967296 := by
  intro x hx
  obtain ⟨y, hy, rfl⟩ := List.mem_map.1 hx
  exact h y hy

set_option maxHeartbeats 6400000 in
set_option maxRecDepth 100000 in
theorem ArrayWalk_calls {w : World} {o : Int} {ok okm : Nat → Prop} {A Am : Option Addr} {c cm : Nat} {l : List S44} {ms : List S104} {f : List Int → List Int → Int}
    (hV : Cmpr (ordV o) f) (hA : Kd.F k44 w ok A l.length l) (hc : l.length ≤ c) (hb : ∀ x ∈ l, Byt x.f0) (hl : l.length ≤ 4294967296) (hx : ∀ x ∈ l, x.f0.length ≤ 4294967296 ∧ x.f1.length ≤ 4294967296)
    (hM : Kd.F k104 w okm Am ms.length ms) (hbM : ∀ m ∈ ms, Byt m.f1) (hokm : ∀ k, okm k → ¬ w.heap.size ≤ k) (hlM : ms.length ≤ 4294967296) :
    Calls Tryz.prog 24 #[.int .i64 o, .slice A l.length c, .slice Am ms.length cm] w fun e w' => AwTold f l ms w e w' := by
  obtain ⟨T, hT⟩ : ∃ T, ordV o = .iface T (.agg #[]) := by
    unfold ordV
    split
    · exact ⟨_, rfl⟩
    · split
      · exact ⟨_, rfl⟩
      · exact ⟨_, rfl⟩
  have HT := Lib.hid hT
  rw [hT] at hV
  have HV := Lib.hid hV
  clear hT
  have HA := Lib.hid (And.intro hA (And.intro hc (And.intro hb (And.intro hl hx))))
  have HM := Lib.hid (And.intro hM (And.intro hbM (And.intro hokm hlM)))
  clear hV hA hc hb hl hx hM hbM hokm hlM
  cases hr : risesL f (kvS l) with
  | false =>
    have HR := Lib.hid hr
    clear hr
    go_enter Tryz.func24, Tryz.ntmps24
    go_wp2_with (first
      | (go_at_call 58; (with_reducible refine (orderOf_calls _ _).mono ?_); rintro e w1 ⟨rfl, rfl⟩; rw [HT.out])
      | (go_at_call 60; (with_reducible refine (copied_calls (Kd.F_now HA.out.1) HA.out.2.1 HA.out.2.2.2.1 HA.out.2.2.2.2).mono ?_); rintro e w1 ⟨A1, c1, rfl, hc1, hF1, hb1⟩)
      | (go_at_call 59; (with_reducible refine (rising_calls HV.out rfl HA.out.2.2.2.1 hF1 HA.out.2.2.1).mono ?_); rintro e w2 ⟨rfl, hb2⟩; rw [HR.out]))
    go_ret2
    exact ⟨hb1.trans (hb2.mono hb1.size), .inr ⟨HR.out, rfl⟩⟩
  | true =>
    have HR := Lib.hid hr
    clear hr
    go_enter Tryz.func24, Tryz.ntmps24
    go_upto_region 4 with (first
      | (go_at_call 58; (with_reducible refine (orderOf_calls _ _).mono ?_); rintro e w1 ⟨rfl, rfl⟩; rw [HT.out])
      | (go_at_call 60; (with_reducible refine (copied_calls (Kd.F_now HA.out.1) HA.out.2.1 HA.out.2.2.2.1 HA.out.2.2.2.2).mono ?_); rintro e w1 ⟨A1, c1, rfl, hc1, hF1, hb1⟩)
      | (go_at_call 59; (with_reducible refine (rising_calls HV.out rfl HA.out.2.2.2.1 hF1 HA.out.2.2.1).mono ?_); rintro e w2 ⟨rfl, hb2⟩; rw [HR.out]))
    have HB2 := Lib.hid (hb1.trans (hb2.mono hb1.size))
    clear hb1 hb2 hF1 hc1
    go_wp2_with (first
      | (go_at_call 60; (with_reducible refine (copied_calls (Kd.F_now (Kd.F_below HA.out.1 HB2.out)) HA.out.2.1 HA.out.2.2.2.1 HA.out.2.2.2.2).mono ?_); rintro e w3 ⟨A2, c2, rfl, hc2, hF2, hb3⟩)
      | (go_at_call 62; (with_reducible refine (NewArrayIterator_calls _ _ _ _ rfl).mono ?_); rintro e w4 ⟨rfl, rfl⟩))
    have HB3 := Lib.hid (HB2.out.trans (hb3.mono HB2.out.size))
    have HST := Lib.hid (ArSt.fresh (V := .iface T (.agg #[])) (c := c2) hF2 rfl (fun k hk => hk.2))
    have hb4 := HB3.out.trans ((below_alloc (Below.refl w3.heap.size w3) (.cells (arCells (arI (.iface T (.agg #[])) A2 l.length c2) (-1) (-1) (.slice none 0 0) (.slice none 0 0)) 167)).mono HB3.out.size)
    have HB4 := Lib.hid hb4
    have HSZ := Lib.hid (World.size_alloc w3 (.cells (arCells (arI (.iface T (.agg #[])) A2 l.length c2) (-1) (-1) (.slice none 0 0) (.slice none 0 0)) 167))
    simp only [arI, arrV] at HST HB4 HSZ
    have HW23 := Lib.hid (And.intro HB2.out.size hb3.size)
    clear hb4 hb3 hF2
    generalize w3.alloc (.cells (arCells (.iface 114 (.agg #[.iface T (.agg #[]), .slice A2 l.length c2])) (-1) (-1) (.slice none 0 0) (.slice none 0 0)) 167) = w4 at *
    go_at_call 61
    refine (walk_calls (arr_iter HV.out rfl HA.out.2.2.2.1 HA.out.2.2.1) HST.out (Kd.F_below HM.out.1 HB4.out) HM.out.2.1 (fun k hk _ q => by
      have h1 := HM.out.2.2.1 k hk
      have h2 := HW23.out
      rcases q with q | q
      · omega
      · omega) (fun k hk => by have := HM.out.2.2.1 k hk; have := HB4.out.size; omega) (kvS_all HA.out.2.2.2.2) HM.out.2.2.2).mono ?_
    rintro e w5 ⟨v, F', rfl, hN, hMv⟩
    go_wp2
    go_ret2
    refine ⟨?_, .inl ⟨HR.out, v, rfl, ?_⟩⟩
    · exact below_fr HB4.out HB4.out.size hMv.fr (fun k hk => by
        have h2 := HW23.out
        rcases hk with hk | hk
        · omega
        · omega)
    · exact N_low (Kd.N_mono hN (ok' := fun k => w.heap.size ≤ k) (fun k hk => Nat.le_trans HB4.out.size hk.1)) HB4.out.size

theorem cmpr_ord {o : Int} (h : o = 0 ∨ o = 1 ∨ o = 2) : Cmpr (ordV o) (cmpO o) := by
  rcases h with rfl | rfl | rfl
  · exact cmpr_bytes
  · exact cmpr_falling
  · exact cmpr_shorter

theorem lit_rises : risesL (cmpO 0) (kvS litL) = true := by decide
theorem lit_range : ((putsL (cmpO 0) litL).filter fun x => over (cmpO 0) (optL false []) x.1 && under (cmpO 0) (optL false []) x.1) = kvC (asC litL) := by decide

abbrev mvA : List S104 := [⟨1, []⟩, ⟨3, []⟩]
abbrev mvB : List S104 := [⟨2, []⟩]
abbrev litA (W : World) : World := W.alloc (.cells #[.int .i64 1, .slice none 0 0, .int .i64 3, .slice none 0 0] 104)
abbrev litB (W : World) : World := W.alloc (.cells #[.int .i64 2, .slice none 0 0] 104)

theorem litA_below (W : World) : Below W.heap.size W (litA W) := below_alloc (Below.refl _ _) _
theorem litB_below (W : World) : Below W.heap.size W (litB W) := below_alloc (Below.refl _ _) _
theorem lit_len : ∀ x ∈ litL, x.f0.length ≤ 4294967296 ∧ x.f1.length ≤ 4294967296 := by decide
theorem lit_byt : ∀ x ∈ litL, Byt x.f0 ∧ Byt x.f1 := by
  intro x hx
  simp only [List.mem_cons, List.not_mem_nil, or_false] at hx
  rcases hx with rfl | rfl
  · exact ⟨fun z hz => by simp at hz; omega, fun z hz => by simp at hz; omega⟩
  · exact ⟨fun z hz => by simp at hz; omega, fun z hz => by simp at hz⟩
theorem mvA_byt : ∀ m ∈ mvA, Byt m.f1 := by
  intro x hx
  simp only [List.mem_cons, List.not_mem_nil, or_false] at hx
  rcases hx with rfl | rfl <;> exact fun z hz => by simp at hz
theorem mvB_byt : ∀ m ∈ mvB, Byt m.f1 := by
  intro x hx
  simp only [List.mem_cons, List.not_mem_nil, or_false] at hx
  rcases hx with rfl
  exact fun z hz => by simp at hz
theorem byt_nil : Byt [] := fun z hz => by cases hz

def LitTold (n : Nat) (ms : List S104) (W : World) (b : Bool) (e : Ending) (w' : World) : Prop :=
  ∃ A c, e = .returned (if b then .tuple #[.slice A n c, .bool true] else .slice A n c) ∧ Hid (Kd.F k121 w' (fun k => W.heap.size ≤ k) A n (atsL (cmpO 0) (kvC (asC litL)) (-1) ms)) ∧ Hid (Below W.heap.size W w')

theorem lit_AW {W : World} {ok : Nat → Prop} {a : Addr} (h : Kd.F k44 W ok (some a) 2 litL) :
    Calls Tryz.prog 24 #[.int .i64 0, .slice (some a) 2 2, .slice (some ⟨W.heap.size, 0, none⟩) 2 2] (litA W) fun e w' => LitTold 2 mvA W true e w' := by
  have hb := litA_below W
  have hs : (litA W).heap.size = W.heap.size + 1 := World.size_alloc _ _
  refine (ArrayWalk_calls (o := 0) (f := cmpO 0) (l := litL) (ms := mvA) (A := some a) (c := 2) (cm := 2) (cmpr_ord (.inl rfl)) (Kd.F_below h hb) (by decide) (fun x hx => (lit_byt x hx).1) (by decide) lit_len (mv2_F W 1 3) mvA_byt (fun k hk q => by omega) (by decide)).mono ?_
  rintro e w' ⟨hbl, hres⟩
  rcases hres with ⟨-, v, rfl, hN⟩ | ⟨hr, -⟩
  · obtain ⟨A, c, rfl⟩ := Kd.N_slice hN
    have hl : (atsL (cmpO 0) (kvS litL) (-1) mvA).length = 2 := by rw [atsL_len]; rfl
    rw [hl] at hN ⊢
    exact ⟨A, c, rfl, Lib.hid (Kd.F_mono (Kd.N_F hN) (fun k hk => by rw [hs] at hk; omega)), Lib.hid (hb.trans (hbl.mono hb.size))⟩
  · rw [lit_rises] at hr
    cases hr

theorem lit_MW {W : World} {ok : Nat → Prop} {a : Addr} (h : Kd.F k44 W ok (some a) 2 litL) (hok : ∀ k, ok k → k < W.heap.size) :
    Calls Tryz.prog 33 #[.int .i64 0, .slice (some a) 2 2, .agg #[.bool false, .bool false, .slice none 0 0, .slice none 0 0], .slice (some ⟨W.heap.size, 0, none⟩) 1 1] (litB W) fun e w' => LitTold 1 mvB W false e w' := by
  have hb := litB_below W
  have hs : (litB W).heap.size = W.heap.size + 1 := World.size_alloc _ _
  have hn : Kd.C (Kd.int .u8) (litB W) none ([] : List Int).length [] := Kd.F_now (Kd.F_nil _ _ (fun _ => True))
  refine (MemWalk_calls (o := 0) (f := cmpO 0) (l := litL) (ms := mvB) (A := some a) (c := 2) (cm := 1) (b1 := false) (b2 := false) (st := []) (lim := []) (cs := 0) (cl := 0) (cmpr_ord (.inl rfl)) (Kd.F_below h hb) lit_byt (fun k hk => by have := hok k hk; rw [hs]; omega) (by decide) (by decide) hn hn byt_nil byt_nil (by decide) (by decide) (mv1_F W 2) mvB_byt (fun k hk q => by omega) (by decide) lit_len).mono ?_
  rintro e w' ⟨v, rfl, hN, hbl⟩
  rw [lit_range] at hN
  obtain ⟨A, c, rfl⟩ := Kd.N_slice hN
  have hl : (atsL (cmpO 0) (kvC (asC litL)) (-1) mvB).length = 1 := by rw [atsL_len]; rfl
  rw [hl] at hN ⊢
  exact ⟨A, c, rfl, Lib.hid (Kd.F_mono (Kd.N_F hN) (fun k hk => by rw [hs] at hk; omega)), Lib.hid (hb.trans (hbl.mono hb.size))⟩

def PrLit (ok : Nat → Prop) (W : World) (e : Ending) (w' : World) : Prop := ∃ A c, e = .returned (.slice A 2 c) ∧ 2 ≤ c ∧ Hid (Kd.F k36 w' (fun k => ok k ∨ W.heap.size ≤ k) A 2 (asC litL)) ∧ Hid (Below W.heap.size W w')

theorem lit_pairs {W : World} {ok : Nat → Prop} {a : Addr} (h : Kd.F k44 W ok (some a) 2 litL) :
    Calls Tryz.prog 26 #[.slice (some a) 2 2] W fun e w' => PrLit ok W e w' := by
  refine (pairs_calls (l := litL) (c := 2) h (by decide) (by decide)).mono ?_
  rintro e w' ⟨A, c, rfl, h1, h2, h3⟩
  exact ⟨A, c, rfl, h1, Lib.hid h2, Lib.hid h3⟩

theorem asC_lit_len : ∀ x ∈ asC litL, x.f0.length ≤ 4294967296 := by decide

theorem lit_walkedA {W : World} {ok okg : Nat → Prop} {A Ag : Option Addr} {c cg : Nat} (h : Kd.F k36 W ok A 2 (asC litL)) (hc : 2 ≤ c) (hG : Kd.F k121 W okg Ag 2 (atsL (cmpO 0) (kvC (asC litL)) (-1) mvA)) :
    Calls Tryz.prog 27 #[.int .i64 0, .slice A 2 c, .slice (some ⟨W.heap.size, 0, none⟩) 2 2, .slice Ag 2 cg] (litA W) fun e w' => e = .returned (.bool true) ∧ Hid (Below W.heap.size W w') := by
  have hb := litA_below W
  refine (walked_calls (l := asC litL) (ms := mvA) 0 (Kd.F_below h hb) rfl hc asC_lit_len (by decide) (mv2_F W 1 3) rfl (by decide) (by decide) (Kd.F_below hG hb)).mono ?_
  rintro e w' ⟨rfl, hbl⟩
  exact ⟨rfl, Lib.hid (hb.trans (hbl.mono hb.size))⟩

theorem lit_walkedB {W : World} {ok okg : Nat → Prop} {A Ag : Option Addr} {c cg : Nat} (h : Kd.F k36 W ok A 2 (asC litL)) (hc : 2 ≤ c) (hG : Kd.F k121 W okg Ag 1 (atsL (cmpO 0) (kvC (asC litL)) (-1) mvB)) :
    Calls Tryz.prog 27 #[.int .i64 0, .slice A 2 c, .slice (some ⟨W.heap.size, 0, none⟩) 1 1, .slice Ag 1 cg] (litB W) fun e w' => e = .returned (.bool true) ∧ Hid (Below W.heap.size W w') := by
  have hb := litB_below W
  refine (walked_calls (l := asC litL) (ms := mvB) 0 (Kd.F_below h hb) rfl hc asC_lit_len (by decide) (mv1_F W 2) rfl (by decide) (by decide) (Kd.F_below hG hb)).mono ?_
  rintro e w' ⟨rfl, hbl⟩
  exact ⟨rfl, Lib.hid (hb.trans (hbl.mono hb.size))⟩

set_option maxHeartbeats 6400000 in
set_option maxRecDepth 100000 in
theorem walkAwake_calls {w : World} : Calls Tryz.prog 28 #[] w fun e w' => e = .returned (.bool true) ∧ Below w.heap.size w w' := by
  have kc := fun (w : World) (C : Array Value) (n c : Nat) => Lib.run_convert_bytes_const (P := Tryz.prog) w 25 5 C n c Tryz.underlying25 Tryz.underlying5
  have kc2 := kc (w.alloc (.cells #[.int .u8 97] 5 (1, 2))) #[.int .u8 49] 1 1
  have kc3 := kc ((w.alloc (.cells #[.int .u8 97] 5 (1, 2))).alloc (.cells #[.int .u8 49] 5 (1, 2))) #[.int .u8 98] 1 1
  simp only [World.size_alloc] at kc2 kc3
  have HF0 := Lib.hid (lit_F w)
  have HB0 := Lib.hid (lit_below w).1
  have HS0 := Lib.hid (blk_lt (lit_below w).2.2.2.2)
  go_enter Tryz.func28, Tryz.ntmps28
  go_upto_region 2 with (fail)
  clear kc kc2 kc3
  unfold litW litC at HF0 HB0 HS0
  generalize (((w.alloc (.cells #[.int .u8 97] 5 (1, 2))).alloc (.cells #[.int .u8 49] 5 (1, 2))).alloc (.cells #[.int .u8 98] 5 (1, 2))).alloc (.cells #[.slice (some ⟨w.heap.size, 0, none⟩) 1 1, .slice (some ⟨w.heap.size + 1, 0, none⟩) 1 1, .slice (some ⟨w.heap.size + 1 + 1, 0, none⟩) 1 1, .slice none 0 0] 44) = w1 at *
  go_wp2_with (first
    | (go_at_call 24; (with_reducible refine (lit_AW HF0.out).mono ?_); rintro e w2 ⟨A2, c2, rfl, g2, b2⟩; have HF2 := Lib.hid (Kd.F_below HF0.out b2.out); have HB2 := Lib.hid (HB0.out.trans (b2.out.mono HB0.out.size)); simp only [if_true])
    | (go_at_call 33; (with_reducible refine (lit_MW HF2.out (fun k hk => Nat.lt_of_lt_of_le hk.2 b2.out.size)).mono ?_); rintro e w3 ⟨A3, c3, rfl, g3, b3⟩; have HF3 := Lib.hid (Kd.F_below HF2.out b3.out); have HB3 := Lib.hid (HB2.out.trans (b3.out.mono HB2.out.size)); simp only [Bool.false_eq_true, if_false])
    | (go_at_call 26; (with_reducible refine (lit_pairs HF3.out).mono ?_); rintro e w4 ⟨A4, c4, rfl, hc4, g4, b4⟩; have HB4 := Lib.hid (HB3.out.trans (b4.out.mono HB3.out.size)); have HF4 := Lib.hid (Kd.F_below HF3.out b4.out); have G2 := Lib.hid (Kd.F_below (Kd.F_below g2.out b3.out) b4.out))
    | (go_at_call 27; (with_reducible refine (lit_walkedA g4.out hc4 G2.out).mono ?_); rintro e w5 ⟨rfl, b5⟩; have HB5 := Lib.hid (HB4.out.trans (b5.out.mono HB4.out.size)); have HF5 := Lib.hid (Kd.F_below HF4.out b5.out))
    | (go_at_call 26; (with_reducible refine (lit_pairs HF5.out).mono ?_); rintro e w6 ⟨A6, c6, rfl, hc6, g6, b6⟩; have HB6 := Lib.hid (HB5.out.trans (b6.out.mono HB5.out.size)); have G3 := Lib.hid (Kd.F_below (Kd.F_below (Kd.F_below g3.out b4.out) b5.out) b6.out))
    | (go_at_call 27; (with_reducible refine (lit_walkedB g6.out hc6 G3.out).mono ?_); rintro e w7 ⟨rfl, b7⟩; have HB7 := Lib.hid (HB6.out.trans (b7.out.mono HB6.out.size))))
  go_ret
  exact ⟨rfl, HB7.out⟩

theorem heap_k44 : Kd.Heap k44 := Kd.heap_iso _ (Kd.heap_pair (Kd.heap_slice 5 (Kd.heap_int .u8)) (Kd.heap_slice 5 (Kd.heap_int .u8)))
theorem heap_k104 : Kd.Heap k104 := Kd.heap_iso _ (Kd.heap_pair (Kd.heap_int .i64) (Kd.heap_slice 5 (Kd.heap_int .u8)))

theorem ord3 (o0 : Int) : wrap64 ((IntKind.u64.wrap o0).tmod 3) = 0 ∨ wrap64 ((IntKind.u64.wrap o0).tmod 3) = 1 ∨ wrap64 ((IntKind.u64.wrap o0).tmod 3) = 2 := by
  have h : 0 ≤ IntKind.u64.wrap o0 := by
    show 0 ≤ o0 % (2 ^ 64 : Int)
    omega
  rw [Int.tmod_eq_emod_of_nonneg h]
  generalize IntKind.u64.wrap o0 = u at *
  unfold wrap64
  omega

theorem asC_all {l : List S44} {m : Nat} (h : ∀ x ∈ l, x.f0.length ≤ m ∧ x.f1.length ≤ m) : ∀ x ∈ asC l, x.f0.length ≤ m := by
  intro x hx
  obtain ⟨y, hy, rfl⟩ := List.mem_map.1 hx
  exact (h y hy).1

end Go.Proofs.YtdkkkikcigjlhaaGreatDoor.Md

namespace Go.Proofs.YtdkkkikcigjlhaaGreatDoor.Open
open Go.ChangeShapes Go.WideShapes Go.RowKit Go.Proofs.YtdkkkikcigjlhaaGreatDoorW.PrintWords

structure Opens (P : Program) (t : TypeId) {α : Type} (d : Kd α) (ok : α → Prop) : Prop where
  run : ∀ {H : Type} {enc : TypeId × Value → H} {w : World} {base : Nat} {spare : Nat → Bool} {fuel : Nat} {cs : List Value} {x : DataW H × List MemPlace}, DataW.trod enc P w base spare true fuel t cs = some x → ∃ a, d.K w a cs ∧ ok a

section
variable {P : Program} {t e : TypeId} {α β : Type} {d : Kd α} {ok : α → Prop}

theorem Opens.imp (h : Opens P t d ok) {ok' : α → Prop} (hi : ∀ a, ok a → ok' a) : Opens P t d ok' := by
  refine ⟨fun hx => ?_⟩
  obtain ⟨a, h1, h2⟩ := h.run hx
  exact ⟨a, h1, hi a h2⟩

theorem opens_int {k : IntKind} (ht : P.underlying t = some (.int k)) : Opens P t (Kd.int k) (fun n => (Lit.int k n).wf = true) := by
  refine ⟨fun hx => ?_⟩
  obtain ⟨n, h1, _, h3⟩ := DataW.trod_int ht hx
  exact ⟨n, h1, h3⟩

theorem opens_slice (ht : P.underlying t = some (.slice e)) (hs : P.cellsOf e = d.sz) (h : Opens P e d ok) : Opens P t (Kd.slice e d) (fun xs => ∀ x ∈ xs, ok x) := by
  refine ⟨fun {H enc w base spare fuel cs x} hx => ?_⟩
  rcases Go.Deep.open_slice ht hx with ⟨rfl, _⟩ | ⟨a, len, cap, m, n, D, Pl, rfl, _, hl, hm, hmm, _, hel⟩
  · exact ⟨[], ⟨none, 0, rfl, Nat.le_refl _, Kd.C_nil _ _⟩, fun x hx => by cases hx⟩
  · have hlm : len ≤ m := by rw [hmm]; split <;> omega
    have one : ∀ i, i < len → ∃ x, ok x ∧ ∃ c, c.length = d.sz ∧ d.K w x c ∧ ∀ j u, c[j]? = some u → w.cell? (a.add (i * d.sz + j)) = some u := fun i hi => by
      obtain ⟨cs', h1, h2⟩ := hel i (by omega)
      obtain ⟨x, h3, h4⟩ := h.run h2
      obtain ⟨_, h5, h6⟩ := World.cells?_some h1
      refine ⟨x, h4, cs', by rw [h5, hs], h3, fun j u hj => ?_⟩
      have hjl : j < P.cellsOf e := by
        rw [← h5]
        exact (List.getElem?_eq_some_iff.1 hj).1
      have := h6 j hjl
      rw [hj, Go.Deep.add_add, hs] at this
      exact this
    have all : ∃ xs : List α, xs.length = len ∧ (∀ x ∈ xs, ok x) ∧ ∀ j p, xs[j]? = some p → ∃ c, c.length = d.sz ∧ d.K w p c ∧ ∀ i u, c[i]? = some u → w.cell? (a.add (j * d.sz + i)) = some u := by
      rcases Nat.eq_zero_or_pos len with z | z
      · exact ⟨[], z.symm, (fun x hx => by cases hx), (fun j p hj => by simp at hj)⟩
      · obtain ⟨x0, _⟩ := one 0 z
        have : Inhabited α := ⟨x0⟩
        obtain ⟨f, hf⟩ := Go.Deep.choose_lt one
        refine ⟨(List.range len).map f, by simp, fun x hx => ?_, fun j p hj => ?_⟩
        · obtain ⟨i, hi, rfl⟩ := List.mem_map.1 hx
          exact (hf i (List.mem_range.1 hi)).1
        · have hjl : j < len := by
            have := (List.getElem?_eq_some_iff.1 hj).1
            simpa using this
          simp [hjl] at hj
          subst hj
          exact (hf j hjl).2
    obtain ⟨xs, hx1, hx2, hx3⟩ := all
    subst hx1
    refine ⟨xs, ⟨some a, cap, rfl, hl, rfl, ?_, fun _ => ⟨a, rfl, hx3⟩⟩, hx2⟩
    have : maxLen = 9223372036854775807 := rfl
    omega

structure OpensFs (P : Program) (fs : List Field) (off : Nat) {α : Type} (d : Kd α) (ok : α → Prop) : Prop where
  run : ∀ {H : Type} {enc : TypeId × Value → H} {w : World} {base : Nat} {spare : Nat → Bool} {fuel : Nat} {cs : List Value}, cs.length = off + d.sz →
    (∀ f, f ∈ fs → ∃ y, DataW.trod enc P w base spare true fuel f.type ((cs.drop f.offset).take (P.cellsOf f.type)) = some y) → ∃ a, d.K w a (cs.drop off) ∧ ok a

theorem opensFs_last {f : Field} {off : Nat} (ho : f.offset = off) (hs : P.cellsOf f.type = d.sz) (h : Opens P f.type d ok) : OpensFs P [f] off d ok := by
  refine ⟨fun {H enc w base spare fuel cs} hl hf => ?_⟩
  obtain ⟨y, hy⟩ := hf f (by simp)
  rw [ho, hs, List.take_of_length_le (by simp; omega)] at hy
  exact h.run hy

theorem opensFs_cons {f : Field} {fs : List Field} {off : Nat} {d' : Kd β} {ok' : β → Prop} (ho : f.offset = off) (hs : P.cellsOf f.type = d.sz) (h : Opens P f.type d ok) (g : OpensFs P fs (off + d.sz) d' ok') :
    OpensFs P (f :: fs) off (Kd.pair d d') (fun x => ok x.1 ∧ ok' x.2) := by
  refine ⟨fun {H enc w base spare fuel cs} hl hf => ?_⟩
  obtain ⟨y, hy⟩ := hf f (by simp)
  rw [ho, hs] at hy
  obtain ⟨a, h1, h2⟩ := h.run hy
  have hsz : (Kd.pair d d').sz = d.sz + d'.sz := rfl
  obtain ⟨b, h3, h4⟩ := g.run (cs := cs) (by omega) (fun f' hf' => hf f' (by simp [hf']))
  refine ⟨(a, b), ⟨(cs.drop off).take d.sz, cs.drop (off + d.sz), ?_, h1, h3⟩, h2, h4⟩
  rw [← List.drop_drop, List.take_append_drop]

theorem opens_struct {fs : Array Field} (ht : P.underlying t = some (.struct fs)) (hc : P.cellsOf t = d.sz) (h : OpensFs P fs.toList 0 d ok) : Opens P t d ok := by
  refine ⟨fun {H enc w base spare fuel cs x} hx => ?_⟩
  obtain ⟨xs, n, _, _, hl, hlen, hf⟩ := DataW.trod_struct ht hx
  have := h.run (cs := cs) (by omega) (fun f hfm => by
    obtain ⟨i, hi⟩ := List.getElem?_of_mem hfm
    have hi' : fs[i]? = some f := by simpa using hi
    have hlt : i < xs.length := by
      rw [hlen]
      exact (Array.getElem?_eq_some_iff.1 hi').1
    exact ⟨xs[i], (hf i f hi').trans (List.getElem?_eq_getElem hlt)⟩)
  simpa using this

theorem opens_iso (h : Opens P t d ok) (f : β → α) (g : α → β) (hfg : ∀ a, f (g a) = a) : Opens P t (Kd.iso d f) (fun b => ok (f b)) := by
  refine ⟨fun hx => ?_⟩
  obtain ⟨a, h1, h2⟩ := h.run hx
  refine ⟨g a, ?_, ?_⟩
  · show d.K _ (f (g a)) _
    rw [hfg]; exact h1
  · show ok (f (g a))
    rw [hfg]; exact h2
end

end Go.Proofs.YtdkkkikcigjlhaaGreatDoor.Open

namespace Go.Proofs.YtdkkkikcigjlhaaGreatDoor.Md
open Go.RowKit Go.Proofs.YtdkkkikcigjlhaaGreatDoor.Open Go.Proofs.YtdkkkikcigjlhaaGreatDoorW.PrintWords Go.Proofs.YtdkkkikcigjlhaaGreatDoor.Cmp Go.Proofs.YtdkkkikcigjlhaaGreatDoor.PFnMemMap

theorem r_byt {l : List Int} (h : ∀ x ∈ l, (Lit.int .u8 x).wf = true) : Byt l := fun x hx => by
  have := h x hx
  simp [Lit.wf, IntKind.min, IntKind.max, IntKind.bits, IntKind.signed] at this
  omega

theorem bytes_opens : Opens Tryz.prog 25 (Kd.slice 5 (Kd.int .u8)) (fun l => ∀ z ∈ l, (Lit.int .u8 z).wf = true) := opens_slice Tryz.underlying25 (by kernel_rfl) (opens_int Tryz.underlying5)

abbrev U8ok (l : List Int) : Prop := ∀ z ∈ l, (Lit.int .u8 z).wf = true

set_option maxRecDepth 100000 in
theorem kv_pair : Opens Tryz.prog 44 (Kd.pair (Kd.slice 5 (Kd.int .u8)) (Kd.slice 5 (Kd.int .u8))) (fun x => U8ok x.1 ∧ U8ok x.2) :=
  (opens_struct (ok := _) Tryz.underlying44 (by kernel_rfl) (opensFs_cons (ok := U8ok) (ok' := U8ok) (d := Kd.slice 5 (Kd.int .u8)) (d' := Kd.slice 5 (Kd.int .u8)) rfl (by kernel_rfl) bytes_opens (opensFs_last rfl (by kernel_rfl) bytes_opens)))
theorem kv_opens : Opens Tryz.prog 44 k44 (fun x => (∀ z ∈ x.f0, (Lit.int .u8 z).wf = true) ∧ (∀ z ∈ x.f1, (Lit.int .u8 z).wf = true)) :=
  opens_iso kv_pair (fun x : S44 => (x.f0, x.f1)) (fun a => ⟨a.1, a.2⟩) (fun _ => rfl)

set_option maxRecDepth 100000 in
theorem mv_pair : Opens Tryz.prog 104 (Kd.pair (Kd.int .i64) (Kd.slice 5 (Kd.int .u8))) (fun x => (Lit.int .i64 x.1).wf = true ∧ U8ok x.2) :=
  (opens_struct (ok := _) Tryz.underlying104 (by kernel_rfl) (opensFs_cons (ok := fun n => (Lit.int .i64 n).wf = true) (ok' := U8ok) (d := Kd.int .i64) (d' := Kd.slice 5 (Kd.int .u8)) rfl (by kernel_rfl) (opens_int Tryz.underlying3) (opensFs_last rfl (by kernel_rfl) bytes_opens)))
theorem mv_opens : Opens Tryz.prog 104 k104 (fun x => (Lit.int .i64 x.f0).wf = true ∧ (∀ z ∈ x.f1, (Lit.int .u8 z).wf = true)) :=
  opens_iso mv_pair (fun x : S104 => (x.f0, x.f1)) (fun a => ⟨a.1, a.2⟩) (fun _ => rfl)

abbrev KvsK : Kd (List S44) := Kd.slice 44 k44
abbrev MvsK : Kd (List S104) := Kd.slice 104 k104
theorem kvs_opens : Opens Tryz.prog 38 KvsK (fun xs => ∀ x ∈ xs, (∀ z ∈ x.f0, (Lit.int .u8 z).wf = true) ∧ (∀ z ∈ x.f1, (Lit.int .u8 z).wf = true)) := opens_slice Tryz.underlying38 (by kernel_rfl) kv_opens
theorem mvs_opens : Opens Tryz.prog 46 MvsK (fun xs => ∀ x ∈ xs, (Lit.int .i64 x.f0).wf = true ∧ (∀ z ∈ x.f1, (Lit.int .u8 z).wf = true)) := opens_slice Tryz.underlying46 (by kernel_rfl) mv_opens

end Go.Proofs.YtdkkkikcigjlhaaGreatDoor.Md
