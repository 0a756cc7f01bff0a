/- The reference's filter of some keys: spec.Bloom. -/
import Derived.Test.YtpdibidfjhjoeaaBlImpl
namespace Go.Proofs.Ytpdibidfjhjoeaa.Bl
open Go.RowKit Go.Proofs.YtpdibidfjhjoeaaW.PrintWords Go.Proofs.YtpdibidfjhjoeaaW.PrintMore Go.Proofs.Ytpdibidfjhjoeaa.PFnBloom Go.Proofs.Ytpdibidfjhjoeaa.Cmp
set_option linter.unusedVariables false
attribute [local go_sem] max2_int min2_int max_two min_two max_three min_three max_four min_four

/-- a block of bytes -/
structure RowS (w : World) (g n : Nat) (L : List Int) : Prop where
  row : ∃ cs, w.heap[g]? = some (.cells cs 5 (0, 0)) ∧ ∀ j, j < n → cs[j]? = some (.int .u8 (L.getD j 0))
  len : L.length = n

theorem RowS.at_ {w : World} {g n : Nat} {L : List Int} (h : RowS w g n L) (j : Nat) (hj : j < n) : w.cell? ⟨g, j, none⟩ = some (.int .u8 (L.getD j 0)) ∧ w.frozen? ⟨g, j, none⟩ = false := by
  obtain ⟨cs, h1, h2⟩ := h.row
  exact ⟨(blk_cell h1 _).trans (h2 j hj), blk_frozen h1 _⟩
theorem RowS.below {w w1 : World} {g n : Nat} {L : List Int} (h : RowS w g n L) (hb : Below w.heap.size w w1) : RowS w1 g n L := by
  obtain ⟨cs, h1, h2⟩ := h.row
  exact ⟨⟨cs, (hb.block g (blk_lt h1)).trans h1, h2⟩, h.len⟩
theorem RowS.drew {w : World} {g n : Nat} {L : List Int} (h : RowS w g n L) : RowS w.drew g n L := ⟨h.row, h.len⟩
theorem RowS.set {w : World} {g n : Nat} {L : List Int} (h : RowS w g n L) (i : Nat) (hi : i < n) (x : Int) : RowS (w.setCell ⟨g, i, none⟩ (.int .u8 x)) g n (L.set i x) := by
  obtain ⟨ds, h4, h5⟩ := h.row
  have hl := h.len
  refine ⟨⟨_, blk_set h4 i (.int .u8 x), fun j hj => ?_⟩, by simp [hl]⟩
  rw [Array.getElem?_setIfInBounds]
  by_cases e : i = j
  · subst e
    have hlt : i < ds.size := by
      rcases Nat.lt_or_ge i ds.size with z | z
      · exact z
      · have := h5 i hi
        rw [Array.getElem?_eq_none z] at this
        cases this
    rw [if_pos rfl, if_pos hlt]
    simp [List.getD_eq_getElem?_getD, hl, hi]
  · rw [if_neg (by omega), h5 j hj]
    simp [List.getD_eq_getElem?_getD, List.getElem?_set_ne e]
theorem RowS.reads {w : World} {g n : Nat} {L : List Int} (h : RowS w g n L) (hn : n ≤ 9223372036854775807) : Kd.C (Kd.int .u8) w (some ⟨g, 0, none⟩) n L := by
  refine ints_C ⟨h.len, hn, fun _ => ⟨⟨g, 0, none⟩, rfl, fun j hj => ?_⟩⟩
  have z := (h.at_ j hj).1
  rwa [← add_plain] at z
theorem RowS.keepR {w : World} {g n : Nat} {L : List Int} (h : RowS w g n L) {base : Nat} {v : Value} {ps : List Int} (hr : Kd.R (Kd.int .i64) 3 w base (fun _ => True) v ps) (j : Nat) (u : Value) : Kd.R (Kd.int .i64) 3 (w.setCell ⟨g, j, none⟩ u) base (fun _ => True) v ps := by
  obtain ⟨cs, h1, _⟩ := h.row
  exact Kd.R_set hr h1 (by decide) j u

theorem Many_r (bits : Int) (b0 : 0 ≤ bits) (b1 : bits ≤ 300) {m : Nat} (em : manyI bits = (m : Int)) (w : World) :
    Calls Try.prog 13 #[.int .i64 bits] w fun e w' => e = .returned (.int .i64 (m : Int)) ∧ Below w.heap.size w w' := by
  rw [← em]
  refine spec_BloomMany.calls bits _ w ?_
  have e1 : wrap64 (bits * 69) = bits * 69 := by unfold wrap64; omega
  have e2 : Int.tdiv (bits * 69) 100 = bits * 69 / 100 := Int.tdiv_eq_ediv_of_nonneg (by omega)
  have e3 : wrap64 (bits * 69 / 100) = bits * 69 / 100 := by unfold wrap64; omega
  unfold spec_BloomMany.f manyI
  rw [e1, e2, e3]

theorem Places_r {w : World} {A : Option Addr} {c : Nat} {key : List Int} (h : Kd.C (Kd.int .u8) w A key.length key) (hc : key.length ≤ c) (hb : Byt key) (bits : Int) (b0 : 0 < bits) (b1 : bits < 4294967296) (m : Nat) (hm : m ≤ 1000) :
    Calls Try.prog 14 #[.slice A key.length c, .int .i64 bits, .int .i64 (m : Int)] w fun e w' => ∃ v, e = .returned v ∧ Kd.R (Kd.int .i64) 3 w' w.heap.size (fun _ => True) v (placesI bits (rotI (bhash key)) m (bhash key)) ∧ Below w.heap.size w w' :=
  spec_BloomPlaces.calls (key.length + 6 + m) A c key bits m _ w h hc (bloomPlaces key hb (Kd.C_max h) bits b0 b1 m hm _ (by omega) (by omega))

theorem made_row (w : World) (n : Nat) : RowS (w.alloc (.cells (madeCells #[.int .u8 0] n) 5)) w.heap.size n (List.replicate n 0) :=
  ⟨⟨_, blk_new w _, fun j hj => by have := made_at n j hj; rwa [Nat.zero_add] at this⟩, by simp⟩

set_option maxHeartbeats 1600000 in
set_option maxRecDepth 100000 in
theorem SpecBloom_calls {w : World} {bits : Int} {A : Option Addr} {c : Nat} {keys : List (List Int)} (b0 : 0 ≤ bits) (b1 : bits ≤ 300) (h : Kd.C RowsK w A keys.length keys) (hc : keys.length ≤ c) (hl : keys.length ≤ 65536) (hb : ∀ k ∈ keys, Byt k) :
    Calls Try.prog 7 #[.int .i64 bits, .slice A keys.length c] w (OneRow w (bloomI bits keys)) := by
  have HK := Lib.hid h
  have HBY := Lib.hid hb
  obtain ⟨S, eS, S8, Sh, eC⟩ := size_eq bits keys.length b0 b1 hl
  obtain ⟨m, em, m1, m30⟩ : ∃ m : Nat, manyI bits = (m : Int) ∧ 1 ≤ m ∧ m ≤ 30 := by
    refine ⟨(manyI bits).toNat, ?_, ?_, ?_⟩ <;> rw [many_eq bits b0 b1] <;> split <;> (try split) <;> omega
  have hMany := Many_r bits b0 b1 em
  have hR : Hid (bloomI bits keys = (keys.map bhash).foldl (addKey (8 * (S : Int)) m) ((List.replicate (S + 1) 0).set S (m : Int))) := by
    show bloomI bits keys = _
    unfold bloomI initI
    rw [eS, em]
    congr 2
  have hLen : (bloomI bits keys).length = S + 1 := by rw [bloom_len, eS]; omega
  generalize bloomI bits keys = R at *
  have n0 : 0 ≤ bits * (keys.length : Int) := Int.mul_nonneg b0 (by omega)
  have n1 : bits * (keys.length : Int) ≤ 19660800 := by
    have h1 : bits * (keys.length : Int) ≤ 300 * 65536 := Int.mul_le_mul b1 (by omega) (by omega) (by omega)
    omega
  rw [Int.mul_comm (keys.length : Int)] at eC
  clear h hb eS em
  generalize hn : keys.length = n at *
  have HN := Lib.hid hn
  clear hn
  have wm : IntKind.i64.wrap (bits * (n : Int)) = bits * (n : Int) := by rw [IntWalk.i64_in _ (by omega)]
  obtain ⟨X, hX⟩ : ∃ X, (if bits * (n : Int) < 64 then 64 else bits * (n : Int)) = X := ⟨_, rfl⟩
  have X0 : 64 ≤ X := by rw [← hX]; split <;> omega
  have X1 : X ≤ 19660800 := by rw [← hX]; split <;> omega
  rw [hX] at eC
  have hmk : ∀ W : World, (Instr.makeSlice 23 (.int .i64 ((S : Int) + 1)) (.int .i64 ((S : Int) + 1))).run Try.prog W = .ok (.slice (some ⟨W.heap.size, 0, none⟩) (S + 1) (S + 1)) (W.alloc (.cells (madeCells #[.int .u8 0] (S + 1)) 5)) :=
    print_make (P := Try.prog) 23 5 .u8 1 Try.underlying23 info_u8 (by decide) (S + 1) (by omega)
  have ho := made_row w (S + 1)
  have hB0 := below_alloc (Below.refl w.heap.size w) (.cells (madeCells #[.int .u8 0] (S + 1)) 5)
  go_enter Try.func7, Try.ntmps7
  go_wp2_with fail
  simp only [eC]
  refine (hMany _).mono ?_
  rintro e w1 ⟨rfl, hb1⟩
  have hB1 := below_then hB0 hB0.size hb1
  have ho1 := ho.below hb1
  obtain ⟨z0, z1⟩ := ho1.at_ S (by omega)
  have hgt : w.heap.size < w1.heap.size := Nat.lt_of_lt_of_le (by simp [World.alloc_eq]) hb1.size
  clear ho hB0 hb1
  generalize hq : w.heap.size = q at *
  go_wp2
  have hS2 := Lib.hid (ho1.set S (by omega) (m : Int))
  have hB2 := Lib.hid (Below.setCell (p := ⟨q, S, none⟩) hB1 (Nat.le_refl q) (Value.int .u8 (m : Int)))
  have hz2 : Hid (q < (w1.setCell ⟨q, S, none⟩ (Value.int .u8 (m : Int))).heap.size) := by
    unfold Hid
    exact Nat.lt_of_lt_of_le hgt (Below.setCell (p := ⟨q, S, none⟩) (Below.refl q w1) (Nat.le_refl q) (Value.int .u8 (m : Int))).size
  generalize w1.setCell ⟨q, S, none⟩ (Value.int .u8 (m : Int)) = w2 at *
  generalize (List.replicate (S + 1) (0 : Int)).set S (m : Int) = L0 at *
  clear ho1 hB1 z0 z1 hgt
  rw [Int.mul_comm 8] at hR
  have HR := Lib.hid hR.out.symm
  clear hR
  go_loopw [7] (fun v7 wr => ∃ (i : Nat) (L : List Int), v7 = .int .i64 (i : Int) ∧ i ≤ n ∧ Hid (((keys.drop i).map bhash).foldl (addKey ((S : Int) * 8) m) L = R) ∧ Hid (RowS wr q (S + 1) L) ∧ Hid (Below q w wr) ∧ Hid (q < wr.heap.size)) (fun v7 _ => n - (intOf v7).toNat)
  case atStart => exact ⟨0, L0, rfl, by omega, HR, hS2, hB2, hz2⟩
  case round =>
    obtain ⟨i, L, rfl, hi, HF, HS, HB, HZ⟩ := hrel
    clear HR hS2 hB2 hz2
    by_cases hk : (i : Int) < (n : Int)
    · have hin : i < n := by omega
      obtain ⟨ad, X', kc, rfl, hcell, hX', hXc⟩ := row_at (Kd.C_below HK.out (by rw [hq]; exact HB.out)) i hin
      have hby := HBY.out (keys.getD i []) (by rw [List.getD_eq_getElem?_getD, List.getElem?_eq_getElem (by rw [HN.out]; exact hin)]; exact List.getElem_mem _)
      have HF2 : Hid (((keys.drop (i + 1)).map bhash).foldl (addKey ((S : Int) * 8) m) (addKey ((S : Int) * 8) m L (bhash (keys.getD i []))) = R) := by
        have z := HF.out
        have hik : i < keys.length := by rw [HN.out]; exact hin
        have eg : keys.getD i [] = keys[i] := by simp [List.getD_eq_getElem?_getD, List.getElem?_eq_getElem hik]
        rw [List.drop_eq_getElem_cons hik, List.map_cons, List.foldl_cons, ← eg] at z
        exact z
      have hPl := fun (W : World) (hb : Below wr.heap.size wr W) => Places_r (Kd.C_below hX' hb) hXc hby (8 * (S : Int)) (by omega) (by omega) m (by omega)
      clear HF hX' hby hXc
      generalize bhash (keys.getD i []) = hv at *
      generalize (keys.getD i []).length = kn at *
      have HL : Hid ((placesI ((S : Int) * 8) (rotI hv) m hv).foldl setBit L = addKey ((S : Int) * 8) m L hv) := rfl
      generalize addKey ((S : Int) * 8) m L hv = L1 at *
      have hpm := fun p hp => places_mem (8 * (S : Int)) (rotI hv) (by omega) m hv p hp
      rw [Int.mul_comm (S : Int)] at HL
      have hpn : (placesI (8 * (S : Int)) (rotI hv) m hv).length ≤ 30 := by rw [places_len]; exact m30
      generalize placesI (8 * (S : Int)) (rotI hv) m hv = ps at *
      go_wp2_with fail
      have w8 : IntKind.i64.wrap (8 * (S : Int)) = 8 * (S : Int) := by rw [IntWalk.i64_in _ (by omega)]
      go_region_held3 (fun W => W.cell? (ad.add i) = some (.slice X' kn kc))
        (first | exact hcell | exact pw_cell_below hb4 (pw_cell_below hb3 hcell) | exact pw_cell_below hb3 hcell)
        (first
          | (go_at_call 13; refine (hMany _).mono ?_; rintro e w3 ⟨rfl, hb3⟩)
          | (go_at_call 14; refine (hPl _ (below_then (Below.refl wr.heap.size wr).drew (Nat.le_refl _) hb3)).mono ?_; rintro e w4 ⟨v4, rfl, hr4, hb4⟩))
      obtain ⟨P, pc, rfl⟩ := Kd.R_slice hr4
      have hwr4 : Below wr.heap.size wr w4 := below_then (below_then (Below.refl wr.heap.size wr).drew (Nat.le_refl _) hb3) (below_then (Below.refl wr.heap.size wr).drew (Nat.le_refl _) hb3).size hb4
      have hB4 := Lib.hid (HB.out.trans (hwr4.mono (Nat.le_of_lt HZ.out)))
      have hS4 := Lib.hid (HS.out.below hwr4)
      have hZ4 := Lib.hid (Nat.lt_of_lt_of_le HZ.out hwr4.size)
      have hR4 := Lib.hid (Kd.R_lower hr4 (Nat.zero_le _))
      have hPM := Lib.hid hpm
      generalize hpl : ps.length = pn at *
      have HPL := Lib.hid hpl
      clear hr4 hb4 hb3 hwr4 hcell hPl hpm hpl HB HS HZ
      go_wp2
      go_loopw [9] (fun v9 wq => ∃ (j : Nat) (L2 : List Int), v9 = .int .i64 (j : Int) ∧ j ≤ pn ∧ Hid ((ps.drop j).foldl setBit L2 = L1) ∧ Hid (RowS wq q (S + 1) L2) ∧ Hid (Kd.R (Kd.int .i64) 3 wq 0 (fun _ => True) (.slice P pn pc) ps) ∧ Hid (Below q w wq) ∧ Hid (q < wq.heap.size)) (fun v9 _ => pn - (intOf v9).toNat)
      case atStart => exact ⟨0, L, rfl, by omega, HL, hS4, hR4, hB4, hZ4⟩
      case round =>
        obtain ⟨j, L2, rfl, hj, HX, HQ, HRR, HBQ, HZQ⟩ := hrel
        clear HL hS4 hR4 hB4 hZ4
        by_cases hk2 : (j : Int) < (pn : Int)
        · have hjl : j < ps.length := by rw [HPL.out]; omega
          obtain ⟨P', pc', he, hpl', hCP⟩ := Kd.R_reads HRR.out
          injection he with eP e2 e3
          subst eP e3
          clear e2
          obtain ⟨pad, rfl, hcp⟩ := (C_ints hCP).2.2 (by omega)
          have cj := hcp j hjl
          obtain ⟨p0, p1⟩ := hPM.out (ps.getD j 0) (getD_mem ps j hjl)
          have HX2 : Hid ((ps.drop (j + 1)).foldl setBit (setBit L2 (ps.getD j 0)) = L1) := by
            have z := HX.out
            rw [drop_at ps j hjl] at z
            exact z
          generalize ps.getD j 0 = p at *
          have q0 : 0 ≤ p / 8 := by omega
          have q1 : p / 8 < (S : Int) + 1 := by omega
          have HX3 : Hid ((ps.drop (j + 1)).foldl setBit (L2.set (p / 8).toNat (Go.bits .or .u8 (L2.getD (p / 8).toNat 0) (2 ^ (p % 8).toNat))) = L1) := HX2
          have pw := two_pow p
          have t1 : Int.tdiv p 8 = p / 8 := Int.tdiv_eq_ediv_of_nonneg p0
          have t2 : Int.tmod p 8 = p % 8 := Int.tmod_eq_emod_of_nonneg p0
          have wd : IntKind.i64.wrap (p / 8) = p / 8 := by rw [IntWalk.i64_in _ (by omega)]
          have we : IntKind.i64.wrap (p % 8) = p % 8 := by rw [IntWalk.i64_in _ (by omega)]
          have wu : IntKind.u64.wrap (p % 8) = p % 8 := u64_wrap_id _ (by omega) (by omega)
          have r0 : 0 ≤ p % 8 := by omega
          clear HX HX2 hcp hCP
          go_wp2
          refine still_tail 17 (by kernel_rfl) (by kernel_rfl) ?_
          intro W3 hW3
          replace cj : W3.cell? (pad.add j) = some (.int .i64 p) := by rw [hW3]; exact cj
          have hQ3 : RowS W3 q (S + 1) L2 := by rw [hW3]; exact HQ.out.drew
          have hR3 : Kd.R (Kd.int .i64) 3 W3 0 (fun _ => True) (.slice (some pad) pn pc) ps := by rw [hW3]; exact HRR.out
          have hB3 : Below q w W3 := by rw [hW3]; exact HBQ.out.drew
          have hZ3 : q < W3.heap.size := by rw [hW3]; exact HZQ.out
          clear hW3 HQ HRR HBQ HZQ
          obtain ⟨y0, y1⟩ := hQ3.at_ (p / 8).toNat (by omega)
          have hq2 := Lib.hid (hQ3.set (p / 8).toNat (by omega) (Go.bits .or .u8 (L2.getD (p / 8).toNat 0) (2 ^ (p % 8).toNat)))
          have hr2 := Lib.hid (hQ3.keepR hR3 (p / 8).toNat (Value.int .u8 (Go.bits .or .u8 (L2.getD (p / 8).toNat 0) (2 ^ (p % 8).toNat))))
          have hb2 := Lib.hid (Below.setCell (p := ⟨q, (p / 8).toNat, none⟩) hB3 (Nat.le_refl q) (Value.int .u8 (Go.bits .or .u8 (L2.getD (p / 8).toNat 0) (2 ^ (p % 8).toNat))))
          have hz2 : Hid (q < (W3.setCell ⟨q, (p / 8).toNat, none⟩ (Value.int .u8 (Go.bits .or .u8 (L2.getD (p / 8).toNat 0) (2 ^ (p % 8).toNat)))).heap.size) := Nat.lt_of_lt_of_le hZ3 (Below.setCell (p := ⟨q, (p / 8).toNat, none⟩) (Below.refl q W3) (Nat.le_refl q) _).size
          clear hQ3 hR3 hB3 hZ3
          generalize L2.getD (p / 8).toNat 0 = yy at *
          simp only [List.take_succ_cons, List.take_zero, List.drop_succ_cons, List.drop_zero]
          repeat still_step
          refine wpStill_nil ?_
          go_wp2
          go_roundw
          case rel => exact ⟨j + 1, _, by simp, by omega, HX3, hq2, hr2, hb2, hz2⟩
          case measure => simp [intOf]; omega
        · have ej : j = pn := by omega
          subst ej
          have hx : L2 = L1 := by
            have z := HX.out
            rw [List.drop_eq_nil_of_le (by rw [HPL.out]; exact Nat.le_refl _)] at z
            exact z
          subst hx
          go_wp2
          go_roundw
          case rel => exact ⟨i + 1, L2, by simp, by omega, HF2, HQ, HBQ, HZQ⟩
          case measure => simp [intOf]; omega
    · have ei : i = n := by omega
      subst ei
      have hx : L = R := by
        have z := HF.out
        rw [List.drop_eq_nil_of_le (by rw [HN.out]; exact Nat.le_refl _)] at z
        exact z
      subst hx
      go_wp2
      go_ret
      have hRd := HS.out.reads (by omega)
      have hBw := HB.out
      subst hq
      unfold OneRow
      rw [hLen]
      exact ⟨some ⟨w.heap.size, 0, none⟩, S + 1, rfl, hRd, Nat.le_refl _, hBw⟩

end Go.Proofs.Ytpdibidfjhjoeaa.Bl
