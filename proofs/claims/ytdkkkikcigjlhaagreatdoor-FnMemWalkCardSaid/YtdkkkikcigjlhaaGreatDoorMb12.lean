/- The laws' walked, walked. -/
import Derived.Test.YtdkkkikcigjlhaaGreatDoorMb11
import Derived.BigRegion
namespace Go.Proofs.YtdkkkikcigjlhaaGreatDoor.Md
open Go.RowKit Go.Proofs.YtdkkkikcigjlhaaGreatDoor.Con Go.Proofs.YtdkkkikcigjlhaaGreatDoor.Run Go.Proofs.YtdkkkikcigjlhaaGreatDoorW.PrintWords Go.Proofs.YtdkkkikcigjlhaaGreatDoorW.PrintMore Go.Proofs.YtdkkkikcigjlhaaGreatDoor.Cmp Go.Sort Go.RwLone Go.Proofs.YtdkkkikcigjlhaaGreatDoor.PFnMemMap
set_option linter.unusedVariables false
set_option linter.unusedSimpArgs false

theorem sp_fr_set {w w1 : World} {it j : Nat} (h : Fr w w1 (fun k => k = it)) (v : Value) : Fr w (w1.setCell ⟨it, j, none⟩ v) (fun k => k = it) := h.setCell (p := ⟨it, j, none⟩) (.inl rfl) v
theorem sp_fr_below {w w1 w2 : World} {it : Nat} (h : Fr w w1 (fun k => k = it)) (hb : Below w1.heap.size w1 w2) : Fr w w2 (fun k => k = it) := h.then_ (Fr.of_below hb (fun _ => False)) (fun k hk => hk.elim)

theorem keyC_on {l : List S36} {i : Int} (h : onL (kvC l) i = true) : ∃ p : Nat, i = (p : Int) ∧ p < l.length ∧ keyL (kvC l) i = (l.getD p (⟨[], []⟩ : S36)).f0 ∧ valL (kvC l) i = (l.getD p (⟨[], []⟩ : S36)).f1 := by
  have h2 := h
  unfold onL at h2
  rw [kvC_len, Bool.and_eq_true, decide_eq_true_iff, decide_eq_true_iff] at h2
  refine ⟨i.toNat, by omega, by omega, ?_, ?_⟩
  · unfold keyL
    rw [if_pos h, List.getD_eq_getElem?_getD, kvC_get, List.getElem?_eq_getElem (by omega)]
    simp [List.getD_eq_getElem?_getD, List.getElem?_eq_getElem (show i.toNat < l.length by omega)]
  · unfold valL
    rw [if_pos h, List.getD_eq_getElem?_getD, kvC_get, List.getElem?_eq_getElem (by omega)]
    simp [List.getD_eq_getElem?_getD, List.getElem?_eq_getElem (show i.toNat < l.length by omega)]
theorem keyC_off {l : List S36} {i : Int} (h : onL (kvC l) i = false) : keyL (kvC l) i = [] ∧ valL (kvC l) i = [] := by
  unfold keyL valL
  rw [h]
  exact ⟨rfl, rfl⟩

theorem two_new2 (w : World) (x y : Array Value) (t u : TypeId) : ((w.alloc (.cells x t)).alloc (.cells y u)).heap[w.heap.size]? = some (.cells x t (0, 0)) ∧ ((w.alloc (.cells x t)).alloc (.cells y u)).heap[w.heap.size + 1]? = some (.cells y u (0, 0)) ∧ Below w.heap.size w ((w.alloc (.cells x t)).alloc (.cells y u)) := by
  have h1 := below_alloc (Below.refl w.heap.size w) (.cells x t)
  have n1 := blk_new w (.cells x t)
  have n2 := blk_new (w.alloc (.cells x t)) (.cells y u)
  rw [World.size_alloc] at n2
  have h2 := below_alloc (Below.refl (w.alloc (.cells x t)).heap.size (w.alloc (.cells x t))) (.cells y u)
  exact ⟨(h2.block _ (blk_lt n1)).trans n1, n2, h1.trans (h2.mono h1.size)⟩

/-- the cursor's block -/
def CurAt (W : World) (g : Nat) (o : Int) (A : Option Addr) (n c : Nat) (i : Int) : Prop := W.heap[g]? = some (.cells #[.int .i64 o, .slice A n c, .int .i64 i] 116 (0, 0))

set_option maxHeartbeats 6400000 in
set_option maxRecDepth 100000 in
theorem walked_calls {w : World} {okl okm okg : Nat → Prop} {A Am Ag : Option Addr} {n c mn cm cg : Nat} {l : List S36} {ms : List S104} (o : Int)
    (hL : Kd.F k36 w okl A n l) (hn : l.length = n) (hc : n ≤ c) (hx : ∀ x ∈ l, x.f0.length ≤ 4294967296) (hl : n ≤ 4294967296)
    (hM : Kd.F k104 w okm Am mn ms) (hmn : ms.length = mn) (hml : mn ≤ 4294967296) (hmk : ∀ m ∈ ms, m.f1.length ≤ 4294967296)
    (hG : Kd.F k121 w okg Ag mn (atsL (cmpO o) (kvC l) (-1) ms)) :
    Calls Tryz.prog 27 #[.int .i64 o, .slice A n c, .slice Am mn cm, .slice Ag mn cg] w fun e w' => e = .returned (.bool true) ∧ Below w.heap.size w w' := by
  have HL := Lib.hid (And.intro hL (And.intro hn (And.intro hc (And.intro hx hl))))
  have HM := Lib.hid (And.intro hM (And.intro hmn (And.intro hml hmk)))
  have HG := Lib.hid hG
  clear hL hn hc hx hl hM hmn hml hmk hG
  have z0 : ((mn : Int) != (mn : Int)) = false := by simp
  go_enter Tryz.func27, Tryz.ntmps27
  go_wp2_with (go_at_call 63; (with_reducible refine (CursorNew_calls _ _ _ _ _).mono ?_); rintro e w1 ⟨rfl, hb1⟩; unfold curV)
  have hb2 := hb1.trans ((below_alloc (Below.refl w1.heap.size w1) (.cells #[.int .i64 o, .slice A n c, .int .i64 (-1)] 116)).mono hb1.size)
  have HC0 : Hid (CurAt (w1.alloc (.cells #[.int .i64 o, .slice A n c, .int .i64 (-1)] 116)) w1.heap.size o A n c (-1)) := Lib.hid (blk_new w1 _)
  have HGE := Lib.hid hb1.size
  have HB2 := Lib.hid hb2
  clear hb1 hb2
  generalize w1.alloc (.cells #[.int .i64 o, .slice A n c, .int .i64 (-1)] 116) = w2 at *
  generalize w1.heap.size = g at *
  go_loopg [10] mn (fun k v10 w' => ∃ j : Nat, v10 = .int .i64 (j : Int) ∧ Hid (j ≤ mn ∧ mn ≤ j + k) ∧ Hid (CurAt w' g o A n c (endL (cmpO o) (kvC l) (-1) (ms.take j))) ∧ Hid (Below w.heap.size w w'))
  case atStart => exact ⟨0, rfl, Lib.hid ⟨by omega, by omega⟩, HC0, HB2⟩
  case round =>
    obtain ⟨j, rfl, HJ, HC, HB⟩ := hrel
    by_cases hj : j < mn
    · have y0 : decide ((j : Int) < (mn : Int)) = true := decide_eq_true (by omega)
      have y1 : (j : Int) < (mn : Int) := by omega
      have x0 : wrap64 ((j : Int) + 1) = (j : Int) + 1 := by have := HM.out.2.2.1; unfold wrap64; omega
      obtain ⟨m, hm⟩ : ∃ m, ms.getD j (⟨0, []⟩ : S104) = m := ⟨_, rfl⟩
      have hjl : j < ms.length := by rw [HM.out.2.1]; exact hj
      have hmem : m ∈ ms := by
        rw [← hm, List.getD_eq_getElem?_getD, List.getElem?_eq_getElem hjl]
        exact List.getElem_mem _
      have htk := sp_take (l := ms) (i := j) hjl (⟨0, []⟩ : S104)
      rw [hm] at htk
      have hat := atsL_at (cmpO o) (kvC l) m ms (-1) j hjl hm
      have hin := endL_in (cmpO o) (kvC l) (ms.take j) (-1) ⟨by omega, by omega⟩
      have hin2 := mvL_in (cmpO o) (kvC l) (endL (cmpO o) (kvC l) (-1) (ms.take j)) m.f0 m.f1 hin
      rw [kvC_len, HL.out.2.1] at hin hin2
      have hend : endL (cmpO o) (kvC l) (-1) (ms.take (j + 1)) = mvL (cmpO o) (kvC l) (endL (cmpO o) (kvC l) (-1) (ms.take j)) m.f0 m.f1 := by rw [htk, endL_snoc]
      obtain ⟨ad2, B, bc, hA2, s0, s1, hMF, hbc⟩ := mv_at (Kd.F_below HM.out.1 HB.out) hj hm
      subst hA2
      have HMV : ∀ W, Below wr.heap.size wr W → Hid (Calls Tryz.prog 64 #[curV o A n c (endL (cmpO o) (kvC l) (-1) (ms.take j)), .int .i64 m.f0, .slice B m.f1.length bc] W fun e w' => CmTold o A n c (kvC l) W (mvL (cmpO o) (kvC l) (endL (cmpO o) (kvC l) (-1) (ms.take j)) m.f0 m.f1) e w') := fun W hW => Lib.hid (move_c o _ _ (Kd.F_now (Kd.F_below (Kd.F_below HL.out.1 HB.out) hW)) HL.out.2.1 HL.out.2.2.1 (Kd.F_now (Kd.F_below hMF hW)) hbc (HM.out.2.2.2 m hmem) HL.out.2.2.2.1 HL.out.2.2.2.2 hin)
      rw [hend.symm] at hin2 HMV hat
      generalize endL (cmpO o) (kvC l) (-1) (ms.take j) = i0 at *
      generalize hi1 : endL (cmpO o) (kvC l) (-1) (ms.take (j + 1)) = i1 at *
      have HI1 := Lib.hid hi1
      have HJJ := Lib.hid hj
      have HIN := Lib.hid hin2
      have HAT := Lib.hid hat
      clear hi1 hj hin hin2 hm hjl hmem htk hat hend hMF hbc
      go_upto_region 8 with (fail)
      go_cut [11] (fun v11 wc => v11 = .bool (onL (kvC l) i1) ∧ Hid (CurAt wc g o A n c i1) ∧ Hid (Fr wr wc (fun k => k = g)))
      case first =>
        have hcur : wr.drew.heap[g]? = some (.cells #[.int .i64 o, .slice A n c, .int .i64 i0] 116 (0, 0)) := HC.out
        have q0 : wr.drew.cell? ⟨g, 0, none⟩ = some (.int .i64 o) := (blk_cell hcur 0).trans rfl
        have q1 : wr.drew.cell? ⟨g, 1, none⟩ = some (.slice A n c) := (blk_cell hcur 1).trans rfl
        have q2 : wr.drew.cell? ⟨g, 2, none⟩ = some (.int .i64 i0) := (blk_cell hcur 2).trans rfl
        have t0 : wr.drew.cell? (ad2.add (j * 2)) = some (.int .i64 m.f0) := s0
        have t1 : wr.drew.cell? ⟨(ad2.add (j * 2)).block, (ad2.add (j * 2)).off + 1, none⟩ = some (.slice B m.f1.length bc) := s1
        have HMD := HMV wr.drew (below_drew (Below.refl _ _))
        unfold curV at HMD
        have HCU := Lib.hid hcur
        have HFD := Lib.hid (Fr.of_below (below_drew (Below.refl wr.heap.size wr)) (fun k => k = g))
        clear hcur HMV s0 s1
        rename_i J K hJ hK
        go_region_with ((with_reducible refine HMD.out.mono ?_); rintro e w4 ⟨rfl, hb4⟩; unfold curV; have h4 := (hb4.block g (blk_lt HCU.out)).trans HCU.out; have p0 := (blk_cell h4 0).trans rfl; have p1 := (blk_cell h4 1).trans rfl; have p2 := (blk_cell h4 2).trans rfl; have f0 := blk_frozen h4 0; have f1 := blk_frozen h4 1; have f2 := blk_frozen h4 2)
        all_goals (
          simp only [Exit.then]
          refine hK _ _ (Met.intro (hJ _ _ ?_))
          repeat apply Exists.intro
          refine ⟨?_, rfl⟩
          refine ⟨rfl, Lib.hid ((blk_set (blk_set (blk_set h4 0 _) 1 _) 2 _).trans rfl), Lib.hid (sp_fr_set (sp_fr_set (sp_fr_set (sp_fr_below HFD.out hb4) _) _) _)⟩)
      case rest =>
        obtain ⟨rfl, HC2, HF2⟩ := hcut
        have hB2 := sp_below_fr HB.out HB.out.size HF2.out (fun k hk => by rw [hk]; exact HGE.out)
        have HB2 := Lib.hid hB2
        obtain ⟨ad3, B1, d1, B2, d2, hA3, r0, r1, r2, r3, r4, hF1, hF2, hd1, hd2⟩ := at_at (Kd.F_below HG.out hB2) HJJ.out HAT.out
        subst hA3
        dsimp only at r0 r1 r2 r3 r4 hF1 hF2 hd1 hd2
        have q1 : wc.cell? ⟨g, 1, none⟩ = some (.slice A n c) := (blk_cell HC2.out 1).trans rfl
        have q2 : wc.cell? ⟨g, 2, none⟩ = some (.int .i64 i1) := (blk_cell HC2.out 2).trans rfl
        clear hB2 s0 s1 HMV
        cases hon : onL (kvC l) i1 with
        | true =>
          obtain ⟨p, rfl, hp, hkk, hvv⟩ := keyC_on hon
          have hp' : p < n := by rw [← HL.out.2.1]; exact hp
          obtain ⟨ad, K, kc, V, vc, hAA, u0, u1, hKF, hVF, hkc, hvc⟩ := cp_at (Kd.F_below HL.out.1 HB2.out) hp' rfl
          subst hAA
          rw [hkk] at r2 hF1 hd1
          rw [hvv] at r3 hF2 hd2
          rw [hon] at r0 r1
          generalize l.getD p (⟨[], []⟩ : S36) = x at *
          have SK : ∀ W, Below wc.heap.size wc W → Hid (Calls Tryz.prog 20 #[.slice B1 x.f0.length d1, .slice K x.f0.length kc] W fun e w' => e = .returned (.bool true) ∧ Below W.heap.size W w') := fun W hW => Lib.hid (by
            have := same_calls (Kd.F_now (Kd.F_below hF1 hW)) hd1 (Kd.F_now (Kd.F_below hKF hW)) hkc
            rw [decide_eq_true rfl] at this
            exact this)
          have SV : ∀ W, Below wc.heap.size wc W → Hid (Calls Tryz.prog 20 #[.slice B2 x.f1.length d2, .slice V x.f1.length vc] W fun e w' => e = .returned (.bool true) ∧ Below W.heap.size W w') := fun W hW => Lib.hid (by
            have := same_calls (Kd.F_now (Kd.F_below hF2 hW)) hd2 (Kd.F_now (Kd.F_below hVF hW)) hvc
            rw [decide_eq_true rfl] at this
            exact this)
          have v0 : (p : Int) < (n : Int) := by omega
          clear hKF hVF hF1 hF2 hkk hvv hp hp' hkc hvc hd1 hd2 hon
          go_upto_region 14 with (fail)
          have TW := Lib.hid (two_new2 wc #[.bool true, .bool true, .slice B1 x.f0.length d1, .slice B2 x.f1.length d2, .int .i64 0] #[.slice none 0 0, .slice none 0 0] 121 36)
          generalize (wc.alloc (.cells #[.bool true, .bool true, .slice B1 x.f0.length d1, .slice B2 x.f1.length d2, .int .i64 0] 121)).alloc (.cells #[.slice none 0 0, .slice none 0 0] 36) = w5 at *
          have q1' : w5.cell? ⟨g, 1, none⟩ = some (.slice (some ad) n c) := pw_cell_below TW.out.2.2 q1
          have q2' : w5.cell? ⟨g, 2, none⟩ = some (.int .i64 (p : Int)) := pw_cell_below TW.out.2.2 q2
          have u0' : w5.cell? (ad.add (p * 2)) = some (.slice K x.f0.length kc) := pw_cell_below TW.out.2.2 u0
          have u1' : w5.cell? ⟨(ad.add (p * 2)).block, (ad.add (p * 2)).off + 1, none⟩ = some (.slice V x.f1.length vc) := pw_cell_below TW.out.2.2 u1
          have m0 : w5.cell? ⟨wc.heap.size + 1, 0, none⟩ = some (.slice none 0 0) := (blk_cell TW.out.2.1 0).trans rfl
          have m1 : w5.cell? ⟨wc.heap.size + 1, 1, none⟩ = some (.slice none 0 0) := (blk_cell TW.out.2.1 1).trans rfl
          have f0 := blk_frozen TW.out.2.1 0
          have f1 := blk_frozen TW.out.2.1 1
          clear q1 q2 u0 u1 r0 r1 r2 r3 r4
          go_upto_region 15 with (fail)
          have b6 : Hid (Below wc.heap.size wc ((w5.setCell ⟨wc.heap.size + 1, 0, none⟩ (.slice K x.f0.length kc)).setCell ⟨wc.heap.size + 1, 1, none⟩ (.slice V x.f1.length vc))) := Lib.hid (below_set (g := wc.heap.size + 1) (j := 1) (below_set (g := wc.heap.size + 1) (j := 0) TW.out.2.2 (Nat.le_succ _)) (Nat.le_succ _))
          have c13 := Lib.hid (blk_set (blk_set TW.out.2.1 0 (.slice K x.f0.length kc)) 1 (.slice V x.f1.length vc))
          have c12 : Hid (((w5.setCell ⟨wc.heap.size + 1, 0, none⟩ (.slice K x.f0.length kc)).setCell ⟨wc.heap.size + 1, 1, none⟩ (.slice V x.f1.length vc)).heap[wc.heap.size]? = _) := Lib.hid (((Below.heap_setCell _ _ _ _ (by simp)).trans (Below.heap_setCell _ _ _ _ (by simp))).trans TW.out.1)
          generalize (w5.setCell ⟨wc.heap.size + 1, 0, none⟩ (.slice K x.f0.length kc)).setCell ⟨wc.heap.size + 1, 1, none⟩ (.slice V x.f1.length vc) = w6 at *
          have e2 : w6.cell? ⟨wc.heap.size, 2, none⟩ = some (.slice B1 x.f0.length d1) := (blk_cell c12.out 2).trans rfl
          have e3 : w6.cell? ⟨wc.heap.size, 3, none⟩ = some (.slice B2 x.f1.length d2) := (blk_cell c12.out 3).trans rfl
          have g0 : w6.cell? ⟨wc.heap.size + 1, 0, none⟩ = some (.slice K x.f0.length kc) := (blk_cell c13.out 0).trans rfl
          have g1 : w6.cell? ⟨wc.heap.size + 1, 1, none⟩ = some (.slice V x.f1.length vc) := (blk_cell c13.out 1).trans rfl
          clear q1' q2' u0' u1' m0 m1 f0 f1
          go_wp2_with (first
            | (go_at_call 20; (with_reducible refine (SK _ b6.out).out.mono ?_); rintro e w7 ⟨rfl, hb7⟩; have b7 := b6.out.trans (hb7.mono b6.out.size); have e3' := pw_cell_below hb7 e3; have g1' := pw_cell_below hb7 g1)
            | (go_at_call 20; (with_reducible refine (SV _ b7).out.mono ?_); rintro e w8 ⟨rfl, hb8⟩; have b8 := b7.trans (hb8.mono b7.size); have HC8 := Lib.hid ((b8.block g (blk_lt HC2.out)).trans HC2.out)))
          go_roundg (gk - 1)
          case measure => have := HJ.out; have := HJJ.out; omega
          case rel => exact ⟨j + 1, (by first | rfl | exact congrArg _ x0), Lib.hid (by have := HJ.out; have := HJJ.out; omega), Lib.hid (by rw [HI1.out]; exact HC8.out), Lib.hid (HB2.out.trans (b8.mono HB2.out.size))⟩
        | false =>
          obtain ⟨hkk, hvv⟩ := keyC_off hon
          rw [hkk] at r2 hF1 hd1
          rw [hvv] at r3 hF2 hd2
          rw [hon] at r0 r1
          simp only [List.length_nil] at r2 r3
          have SK : ∀ W, Below wc.heap.size wc W → Hid (Calls Tryz.prog 20 #[.slice B1 0 d1, .slice none 0 0] W fun e w' => e = .returned (.bool true) ∧ Below W.heap.size W w') := fun W hW => Lib.hid (by
            have := same_calls (k := []) (B := none) (d := 0) (Kd.F_now (Kd.F_below hF1 hW)) hd1 (Kd.F_now (Kd.F_nil _ _ (fun _ => True))) (Nat.le_refl _)
            rw [decide_eq_true rfl] at this
            exact this)
          have SV : ∀ W, Below wc.heap.size wc W → Hid (Calls Tryz.prog 20 #[.slice B2 0 d2, .slice none 0 0] W fun e w' => e = .returned (.bool true) ∧ Below W.heap.size W w') := fun W hW => Lib.hid (by
            have := same_calls (k := []) (B := none) (d := 0) (Kd.F_now (Kd.F_below hF2 hW)) hd2 (Kd.F_now (Kd.F_nil _ _ (fun _ => True))) (Nat.le_refl _)
            rw [decide_eq_true rfl] at this
            exact this)
          clear hF1 hF2 hkk hvv hd1 hd2 hon q1 q2
          go_upto_region 15 with (fail)
          have TW := Lib.hid (two_new2 wc #[.bool false, .bool false, .slice B1 0 d1, .slice B2 0 d2, .int .i64 0] #[.slice none 0 0, .slice none 0 0] 121 36)
          generalize (wc.alloc (.cells #[.bool false, .bool false, .slice B1 0 d1, .slice B2 0 d2, .int .i64 0] 121)).alloc (.cells #[.slice none 0 0, .slice none 0 0] 36) = w6 at *
          have e2 : w6.cell? ⟨wc.heap.size, 2, none⟩ = some (.slice B1 0 d1) := (blk_cell TW.out.1 2).trans rfl
          have e3 : w6.cell? ⟨wc.heap.size, 3, none⟩ = some (.slice B2 0 d2) := (blk_cell TW.out.1 3).trans rfl
          have g0 : w6.cell? ⟨wc.heap.size + 1, 0, none⟩ = some (.slice none 0 0) := (blk_cell TW.out.2.1 0).trans rfl
          have g1 : w6.cell? ⟨wc.heap.size + 1, 1, none⟩ = some (.slice none 0 0) := (blk_cell TW.out.2.1 1).trans rfl
          have b6 := Lib.hid TW.out.2.2
          clear r0 r1 r2 r3 r4
          go_wp2_with (first
            | (go_at_call 20; (with_reducible refine (SK _ b6.out).out.mono ?_); rintro e w7 ⟨rfl, hb7⟩; have b7 := b6.out.trans (hb7.mono b6.out.size); have e3' := pw_cell_below hb7 e3; have g1' := pw_cell_below hb7 g1)
            | (go_at_call 20; (with_reducible refine (SV _ b7).out.mono ?_); rintro e w8 ⟨rfl, hb8⟩; have b8 := b7.trans (hb8.mono b7.size); have HC8 := Lib.hid ((b8.block g (blk_lt HC2.out)).trans HC2.out)))
          go_roundg (gk - 1)
          case measure => have := HJ.out; have := HJJ.out; omega
          case rel => exact ⟨j + 1, (by first | rfl | exact congrArg _ x0), Lib.hid (by have := HJ.out; have := HJJ.out; omega), Lib.hid (by rw [HI1.out]; exact HC8.out), Lib.hid (HB2.out.trans (b8.mono HB2.out.size))⟩
    · have y0 : decide ((j : Int) < (mn : Int)) = false := decide_eq_false (by omega)
      go_wp2
      go_ret
      exact ⟨rfl, HB.out⟩

end Go.Proofs.YtdkkkikcigjlhaaGreatDoor.Md
