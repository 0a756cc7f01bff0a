/- The filter of the keys: bloomFilterGenerator.Generate. -/
import Derived.Test.YtpdibidfjhjoeaaBlAlloc
namespace Go.Proofs.Ytpdibidfjhjoeaa.Bl
open Go.RowKit Go.Proofs.YtpdibidfjhjoeaaW.PrintWords Go.Proofs.YtpdibidfjhjoeaaW.PrintMore Go.Proofs.Ytpdibidfjhjoeaa.Cmp
set_option linter.unusedVariables false

/-- the hashes of a generator, read -/
theorem GenS.slice {w : World} {base g : Nat} {bits many : Int} {v : Value} {hs : List Int} (h : GenS w base g bits many v hs) : ∃ A c, v = .slice A hs.length c ∧ hs.length ≤ c := by
  obtain ⟨A, c, he, hl, _⟩ := Kd.R_reads h.row
  exact ⟨A, c, he, hl⟩

theorem GenS.reads {w : World} {base g : Nat} {bits many : Int} {A : Option Addr} {n c : Nat} {hs : List Int} (h : GenS w base g bits many (.slice A n c) hs) : Kd.C (Kd.int .u32) w A hs.length hs := by
  obtain ⟨A', c', he, _, hr⟩ := Kd.R_reads h.row
  injection he with e1 e2 e3
  subst e1
  exact hr

theorem size_eq (bits : Int) (n : Nat) (b0 : 0 ≤ bits) (b1 : bits ≤ 300) (hn : n ≤ 65536) : ∃ S : Nat, sizeI bits n = (S : Int) ∧ 8 ≤ S ∧ S ≤ 2457601 ∧ ((if (n : Int) * bits < 64 then 64 else (n : Int) * bits) + 7) / 8 = (S : Int) := by
  have h0 : 0 ≤ (n : Int) * bits := Int.mul_nonneg (by omega) b0
  have h1 : (n : Int) * bits ≤ 65536 * 300 := Int.mul_le_mul (by omega) b1 b0 (by omega)
  refine ⟨(sizeI bits n).toNat, ?_, ?_, ?_, ?_⟩ <;> unfold sizeI mx <;> rw [Int.mul_comm bits] <;> split <;> omega

theorem two_pow (p : Int) : (2 : Int) ^ (p % 8).toNat % 256 = 2 ^ (p % 8).toNat := by
  have hp : (2 : Nat) ^ (p % 8).toNat ≤ 2 ^ 7 := Nat.pow_le_pow_right (by decide) (by omega)
  have e : ((2 ^ (p % 8).toNat : Nat) : Int) = (2 : Int) ^ (p % 8).toNat := Int.natCast_pow 2 _
  have h3 : (0 : Int) ≤ ((2 ^ (p % 8).toNat : Nat) : Int) := Int.natCast_nonneg _
  have h4 : ((2 ^ (p % 8).toNat : Nat) : Int) ≤ 128 := by omega
  rw [e] at h3 h4
  omega

set_option maxHeartbeats 1600000 in
set_option maxRecDepth 100000 in
theorem gen_large {wb : World} {base gg : Nat} {bits : Int} {m n S : Nat} {A : Option Addr} {vc : Nat} {hs : List Int} (hG : GenS wb base gg bits (m : Int) (.slice A n vc) hs) (HN : Hid (hs.length = n)) (hvc : n ≤ vc) (nl : n ≤ 65536) (hbase : base ≤ wb.heap.size) (n0 : 0 ≤ (n : Int) * bits) (n1 : (n : Int) * bits ≤ 19660800) (c : ¬ (n : Int) * bits < 64) (eC : ((n : Int) * bits + 7) / 8 = (S : Int)) (S8 : 8 ≤ S) (Sh : S ≤ 2457601) (m1 : 1 ≤ m) (m30 : m ≤ 30) (HRG : Hid (∀ x ∈ hs, 0 ≤ x ∧ x < 4294967296)) (R : List Int)
    (HR : Hid (List.foldl (addKey ((S : Int) * 8) m) ((List.replicate (S + 1) 0).set S (m : Int)) hs = R))
    (w : World) (hw : w.heap[wb.heap.size]? = some (.cells zbuf 39 (0, 0))) (hB : Below wb.heap.size wb w) :
    Calls Try.prog 42 #[.pointer (some ⟨gg, 0, none⟩), .iface 36 (.pointer (some ⟨wb.heap.size, 0, none⟩))] w fun e w' => e = .returned (.tuple #[]) ∧
      ∃ g o c, BufS w' wb.heap.size g o (S + 1) c R ∧ Below base wb w' := by
  have hGen := fun (W : World) (hb : Below wb.heap.size wb W) => hG.below hb
  have hA := fun (W : World) (hb : W.heap[wb.heap.size]? = some (.cells zbuf 39 (0, 0))) => Alloc_calls (n := (S + 1)) hb (by omega) (by omega)
  obtain ⟨x0, x1, x2, x3⟩ := (hGen w hB).cell
  have wm : IntKind.i64.wrap ((n : Int) * bits) = (n : Int) * bits := by rw [IntWalk.i64_in _ (by omega)]
  have hat := hG.at_
  have hgg : gg < wb.heap.size := blk_lt hG.cells
  clear hG
  go_enter Try.func42, Try.ntmps42
  go_wp2
  go_quiet (fail)
  go_wp2_with fail
  refine (hA _ (blk_drewN hw nq)).mono ?_
  rintro e w1 ⟨g, o, c', rfl, hS, hg, hb1⟩
  have hB1 : Below wb.heap.size wb w1 := (pw_below_drewN hB nq).trans hb1
  clear hA hb1 x0 x1 x2 x3 hw hB
  obtain ⟨y0, y1, y2, y3⟩ := (hGen w1 hB1).cell
  obtain ⟨z0, z1⟩ := hS.at_ S (by omega)
  go_wp2
  have hS2 := Lib.hid (hS.set S (by omega) (m : Int))
  have hB2 := Lib.hid (Below.setCell (p := ⟨g, o + S, none⟩) hB1 hg (Value.int .u8 (m : Int)))
  generalize w1.setCell ⟨g, o + S, none⟩ (Value.int .u8 (m : Int)) = w2 at *
  generalize (List.replicate (S + 1) (0 : Int)).set S (m : Int) = L0 at *
  clear hS hB1 y0 y1 y2 y3 z0 z1
  go_loopw [47] (fun v47 wr => ∃ (i : Nat) (L : List Int), v47 = .int .i64 (i : Int) ∧ i ≤ n ∧ Hid ((hs.drop i).foldl (addKey ((S : Int) * 8) m) L = R) ∧ Hid (BufS wr wb.heap.size g o (S + 1) c' L) ∧ Hid (Below wb.heap.size wb wr)) (fun v47 _ => n - (intOf v47).toNat)
  case atStart => exact ⟨0, L0, rfl, by omega, HR, hS2, hB2⟩
  case round =>
    obtain ⟨i, L, rfl, hi, HF, HS, HB⟩ := hrel
    clear HR hS2 hB2
    by_cases hk : (i : Int) < (n : Int)
    · obtain ⟨ad, rfl, hcell⟩ := (C_ints (hGen _ HB.out).reads).2.2 (by rw [HN.out]; omega)
      have hci := hcell i (by rw [HN.out]; omega)
      obtain ⟨kl, kh⟩ := HRG.out (hs.getD i 0) (getD_mem hs i (by rw [HN.out]; omega))
      have HF2 : Hid ((hs.drop (i + 1)).foldl (addKey ((S : Int) * 8) m) (addKey ((S : Int) * 8) m L (hs.getD i 0)) = R) := by
        have z := HF.out
        rw [drop_at hs i (by rw [HN.out]; omega)] at z
        exact z
      clear HF hcell
      generalize hs.getD i 0 = hv at *
      have HL : Hid ((placesI ((S : Int) * 8) (rotI hv) m hv).foldl setBit L = addKey ((S : Int) * 8) m L hv) := rfl
      generalize addKey ((S : Int) * 8) m L hv = L1 at *
      go_wp2
      rw [show (Go.bits BinOp.or IntKind.u32 (hv / 131072) (hv * 32768 % 4294967296)) = rotI hv from rfl]
      generalize rotI hv = st at *
      clear hci
      go_loopw [8, 10] (fun v8 v10 wq => ∃ (x : Int) (j : Nat) (L2 : List Int), v8 = .int .u32 x ∧ v10 = .int .u8 (j : Int) ∧ 0 ≤ x ∧ x < 4294967296 ∧ j ≤ m ∧ Hid ((placesI ((S : Int) * 8) st (m - j) x).foldl setBit L2 = L1) ∧ Hid (BufS wq wb.heap.size g o (S + 1) c' L2) ∧ Hid (Below wb.heap.size wb wq)) (fun _ v10 _ => m - (intOf v10).toNat)
      case atStart => exact ⟨hv, 0, L, rfl, rfl, kl, kh, by omega, HL, HS, HB⟩
      case round =>
        obtain ⟨x, j, L2, rfl, rfl, x0, x1, hj, HX, HQ, HBQ⟩ := hrel
        clear HL HS HB
        obtain ⟨y0, y1, y2, y3⟩ := (hGen _ HBQ.out).cell
        by_cases hk2 : (j : Int) < (m : Int)
        · obtain ⟨k, ek⟩ : ∃ k, m - j = k + 1 := ⟨m - j - 1, by omega⟩
          rw [ek] at HX
          have p0 := Int.emod_nonneg x (show ((S : Int) * 8) ≠ 0 by omega)
          have p1 := Int.emod_lt_of_pos x (show 0 < ((S : Int) * 8) by omega)
          have HX2 : Hid ((placesI ((S : Int) * 8) st k ((x + st) % 4294967296)).foldl setBit (setBit L2 (x % ((S : Int) * 8))) = L1) := HX
          generalize hp : x % ((S : Int) * 8) = p at *
          obtain ⟨z0, z1⟩ := HQ.out.at_ (p / 8).toNat (by omega)
          have q0 : 0 ≤ p / 8 := by omega
          have q1 : p / 8 < (S : Int) + 1 := by omega
          have hq2 := Lib.hid (HQ.out.set (p / 8).toNat (by omega) (Go.bits .or .u8 (L2.getD (p / 8).toNat 0) (2 ^ (p % 8).toNat)))
          have HX3 : Hid ((placesI ((S : Int) * 8) st k ((x + st) % 4294967296)).foldl setBit (L2.set (p / 8).toNat (Go.bits .or .u8 (L2.getD (p / 8).toNat 0) (2 ^ (p % 8).toNat))) = L1) := HX2
          have pw := two_pow p
          clear HX HX2 HQ
          generalize L2.getD (p / 8).toNat 0 = yy at *
          have hB3 := Lib.hid (Below.setCell (p := ⟨g, o + (p / 8).toNat, none⟩) HBQ.out hg (Value.int .u8 (Go.bits .or .u8 yy (2 ^ (p % 8).toNat))))
          have ek2 : m - (j + 1) = k := by omega
          go_wp2
          go_roundw
          case rel => exact ⟨_, j + 1, _, rfl, by simp, by omega, by omega, by omega, by rw [ek2]; exact HX3, hq2, hB3⟩
          case measure => simp [intOf]; omega
        · have e0 : m - j = 0 := by omega
          rw [e0] at HX
          have hx : L2 = L1 := HX
          subst hx
          go_wp2
          go_roundw
          case rel => exact ⟨i + 1, L2, by simp, by omega, HF2, HQ, HBQ⟩
          case measure => simp [intOf]; omega
    · have ei : i = n := by omega
      subst ei
      have hx : L = R := by
        have z := HF.out
        rw [List.drop_eq_nil_of_le (by rw [HN.out]; exact Nat.le_refl _)] at z
        exact z
      subst hx
      have hS3 := HS.out
      have hB3 := HB.out
      obtain ⟨y0, y1, y2, y3⟩ := (hGen _ hB3).cell
      have i0 : (0 : Int) ≤ (vc : Int) := by omega
      go_wp2
      go_end0
      refine ⟨rfl, ⟨g, o, c', hS3.keep (Below.heap_setCell _ _ _ _ ?_) (Below.heap_setCell _ _ _ _ ?_)⟩, Below.setCell (p := ⟨gg, 2, none⟩) (hB3.mono hbase) hat _⟩
      · exact Nat.ne_of_gt hgg
      · exact Nat.ne_of_gt (Nat.lt_of_lt_of_le hgg hg)

set_option maxHeartbeats 1600000 in
set_option maxRecDepth 100000 in
theorem gen_small {wb : World} {base gg : Nat} {bits : Int} {m n : Nat} {A : Option Addr} {vc : Nat} {hs : List Int} (hG : GenS wb base gg bits (m : Int) (.slice A n vc) hs) (HN : Hid (hs.length = n)) (hvc : n ≤ vc) (nl : n ≤ 65536) (hbase : base ≤ wb.heap.size) (n0 : 0 ≤ (n : Int) * bits) (n1 : (n : Int) * bits ≤ 19660800) (c : (n : Int) * bits < 64) (m1 : 1 ≤ m) (m30 : m ≤ 30) (HRG : Hid (∀ x ∈ hs, 0 ≤ x ∧ x < 4294967296)) (R : List Int)
    (HR : Hid (List.foldl (addKey 64 m) ((List.replicate 9 0).set 8 (m : Int)) hs = R))
    (w : World) (hw : w.heap[wb.heap.size]? = some (.cells zbuf 39 (0, 0))) (hB : Below wb.heap.size wb w) :
    Calls Try.prog 42 #[.pointer (some ⟨gg, 0, none⟩), .iface 36 (.pointer (some ⟨wb.heap.size, 0, none⟩))] w fun e w' => e = .returned (.tuple #[]) ∧
      ∃ g o c, BufS w' wb.heap.size g o 9 c R ∧ Below base wb w' := by
  have hGen := fun (W : World) (hb : Below wb.heap.size wb W) => hG.below hb
  have hA := fun (W : World) (hb : W.heap[wb.heap.size]? = some (.cells zbuf 39 (0, 0))) => Alloc_calls (n := 9) hb (by omega) (by omega)
  obtain ⟨x0, x1, x2, x3⟩ := (hGen w hB).cell
  have wm : IntKind.i64.wrap ((n : Int) * bits) = (n : Int) * bits := by rw [IntWalk.i64_in _ (by omega)]
  have hat := hG.at_
  have hgg : gg < wb.heap.size := blk_lt hG.cells
  clear hG
  go_enter Try.func42, Try.ntmps42
  go_wp2
  go_quiet (fail)
  go_wp2_with fail
  refine (hA _ (blk_drewN hw nq)).mono ?_
  rintro e w1 ⟨g, o, c', rfl, hS, hg, hb1⟩
  have hB1 : Below wb.heap.size wb w1 := (pw_below_drewN hB nq).trans hb1
  clear hA hb1 x0 x1 x2 x3 hw hB
  obtain ⟨y0, y1, y2, y3⟩ := (hGen w1 hB1).cell
  obtain ⟨z0, z1⟩ := hS.at_ 8 (by omega)
  go_wp2
  have hS2 := Lib.hid (hS.set 8 (by omega) (m : Int))
  have hB2 := Lib.hid (Below.setCell (p := ⟨g, o + 8, none⟩) hB1 hg (Value.int .u8 (m : Int)))
  generalize w1.setCell ⟨g, o + 8, none⟩ (Value.int .u8 (m : Int)) = w2 at *
  generalize (List.replicate 9 (0 : Int)).set 8 (m : Int) = L0 at *
  clear hS hB1 y0 y1 y2 y3 z0 z1
  go_loopw [47] (fun v47 wr => ∃ (i : Nat) (L : List Int), v47 = .int .i64 (i : Int) ∧ i ≤ n ∧ Hid ((hs.drop i).foldl (addKey 64 m) L = R) ∧ Hid (BufS wr wb.heap.size g o 9 c' L) ∧ Hid (Below wb.heap.size wb wr)) (fun v47 _ => n - (intOf v47).toNat)
  case atStart => exact ⟨0, L0, rfl, by omega, HR, hS2, hB2⟩
  case round =>
    obtain ⟨i, L, rfl, hi, HF, HS, HB⟩ := hrel
    clear HR hS2 hB2
    by_cases hk : (i : Int) < (n : Int)
    · obtain ⟨ad, rfl, hcell⟩ := (C_ints (hGen _ HB.out).reads).2.2 (by rw [HN.out]; omega)
      have hci := hcell i (by rw [HN.out]; omega)
      obtain ⟨kl, kh⟩ := HRG.out (hs.getD i 0) (getD_mem hs i (by rw [HN.out]; omega))
      have HF2 : Hid ((hs.drop (i + 1)).foldl (addKey 64 m) (addKey 64 m L (hs.getD i 0)) = R) := by
        have z := HF.out
        rw [drop_at hs i (by rw [HN.out]; omega)] at z
        exact z
      clear HF hcell
      generalize hs.getD i 0 = hv at *
      have HL : Hid ((placesI 64 (rotI hv) m hv).foldl setBit L = addKey 64 m L hv) := rfl
      generalize addKey 64 m L hv = L1 at *
      go_wp2
      rw [show (Go.bits BinOp.or IntKind.u32 (hv / 131072) (hv * 32768 % 4294967296)) = rotI hv from rfl]
      generalize rotI hv = st at *
      clear hci
      go_loopw [8, 10] (fun v8 v10 wq => ∃ (x : Int) (j : Nat) (L2 : List Int), v8 = .int .u32 x ∧ v10 = .int .u8 (j : Int) ∧ 0 ≤ x ∧ x < 4294967296 ∧ j ≤ m ∧ Hid ((placesI 64 st (m - j) x).foldl setBit L2 = L1) ∧ Hid (BufS wq wb.heap.size g o 9 c' L2) ∧ Hid (Below wb.heap.size wb wq)) (fun _ v10 _ => m - (intOf v10).toNat)
      case atStart => exact ⟨hv, 0, L, rfl, rfl, kl, kh, by omega, HL, HS, HB⟩
      case round =>
        obtain ⟨x, j, L2, rfl, rfl, x0, x1, hj, HX, HQ, HBQ⟩ := hrel
        clear HL HS HB
        obtain ⟨y0, y1, y2, y3⟩ := (hGen _ HBQ.out).cell
        by_cases hk2 : (j : Int) < (m : Int)
        · obtain ⟨k, ek⟩ : ∃ k, m - j = k + 1 := ⟨m - j - 1, by omega⟩
          rw [ek] at HX
          have p0 := Int.emod_nonneg x (show 64 ≠ 0 by omega)
          have p1 := Int.emod_lt_of_pos x (show 0 < 64 by omega)
          have HX2 : Hid ((placesI 64 st k ((x + st) % 4294967296)).foldl setBit (setBit L2 (x % 64)) = L1) := HX
          generalize hp : x % 64 = p at *
          obtain ⟨z0, z1⟩ := HQ.out.at_ (p / 8).toNat (by omega)
          have q0 : 0 ≤ p / 8 := by omega
          have q1 : p / 8 < 8 + 1 := by omega
          have hq2 := Lib.hid (HQ.out.set (p / 8).toNat (by omega) (Go.bits .or .u8 (L2.getD (p / 8).toNat 0) (2 ^ (p % 8).toNat)))
          have HX3 : Hid ((placesI 64 st k ((x + st) % 4294967296)).foldl setBit (L2.set (p / 8).toNat (Go.bits .or .u8 (L2.getD (p / 8).toNat 0) (2 ^ (p % 8).toNat))) = L1) := HX2
          have pw := two_pow p
          clear HX HX2 HQ
          generalize L2.getD (p / 8).toNat 0 = yy at *
          have hB3 := Lib.hid (Below.setCell (p := ⟨g, o + (p / 8).toNat, none⟩) HBQ.out hg (Value.int .u8 (Go.bits .or .u8 yy (2 ^ (p % 8).toNat))))
          have ek2 : m - (j + 1) = k := by omega
          go_wp2
          go_roundw
          case rel => exact ⟨_, j + 1, _, rfl, by simp, by omega, by omega, by omega, by rw [ek2]; exact HX3, hq2, hB3⟩
          case measure => simp [intOf]; omega
        · have e0 : m - j = 0 := by omega
          rw [e0] at HX
          have hx : L2 = L1 := HX
          subst hx
          go_wp2
          go_roundw
          case rel => exact ⟨i + 1, L2, by simp, by omega, HF2, HQ, HBQ⟩
          case measure => simp [intOf]; omega
    · have ei : i = n := by omega
      subst ei
      have hx : L = R := by
        have z := HF.out
        rw [List.drop_eq_nil_of_le (by rw [HN.out]; exact Nat.le_refl _)] at z
        exact z
      subst hx
      have hS3 := HS.out
      have hB3 := HB.out
      obtain ⟨y0, y1, y2, y3⟩ := (hGen _ hB3).cell
      have i0 : (0 : Int) ≤ (vc : Int) := by omega
      go_wp2
      go_end0
      refine ⟨rfl, ⟨g, o, c', hS3.keep (Below.heap_setCell _ _ _ _ ?_) (Below.heap_setCell _ _ _ _ ?_)⟩, Below.setCell (p := ⟨gg, 2, none⟩) (hB3.mono hbase) hat _⟩
      · exact Nat.ne_of_gt hgg
      · exact Nat.ne_of_gt (Nat.lt_of_lt_of_le hgg hg)

theorem Generate_calls {wb : World} {base gg : Nat} {bits : Int} {v : Value} {hs : List Int} (hG : GenS wb base gg bits (manyI bits) v hs) (hbase : base ≤ wb.heap.size) (b0 : 0 ≤ bits) (b1 : bits ≤ 300) (hl : hs.length ≤ 65536) (hr : ∀ x ∈ hs, 0 ≤ x ∧ x < 4294967296)
    (w : World) (hw : w.heap[wb.heap.size]? = some (.cells zbuf 39 (0, 0))) (hB : Below wb.heap.size wb w) :
    Calls Try.prog 42 #[.pointer (some ⟨gg, 0, none⟩), .iface 36 (.pointer (some ⟨wb.heap.size, 0, none⟩))] w fun e w' => e = .returned (.tuple #[]) ∧
      ∃ g o n c, BufS w' wb.heap.size g o n c (hs.foldl (addKey (8 * sizeI bits hs.length) (manyI bits).toNat) (initI bits hs.length)) ∧ Below base wb w' := by
  obtain ⟨S, eS, S8, Sh, eC⟩ := size_eq bits hs.length b0 b1 hl
  obtain ⟨m, em, m1, m30⟩ : ∃ m : Nat, manyI bits = (m : Int) ∧ 1 ≤ m ∧ m ≤ 30 := by
    refine ⟨(manyI bits).toNat, ?_, ?_, ?_⟩ <;> rw [many_eq bits b0 b1] <;> split <;> (try split) <;> omega
  have eI : initI bits hs.length = (List.replicate (S + 1) 0).set S (m : Int) := by
    unfold initI
    rw [eS, em]
    congr 2
  rw [eS, eI, em, Int.toNat_natCast, Int.mul_comm 8]
  rw [em] at hG
  obtain ⟨A, vc, rfl, hvc⟩ := hG.slice
  have n0 : 0 ≤ (hs.length : Int) * bits := Int.mul_nonneg (by omega) b0
  have n1 : (hs.length : Int) * bits ≤ 19660800 := by
    have h1 : (hs.length : Int) * bits ≤ 65536 * 300 := Int.mul_le_mul (by omega) b1 b0 (by omega)
    omega
  by_cases c : (hs.length : Int) * bits < 64
  · rw [if_pos c] at eC
    have e8 : S = 8 := by omega
    subst e8
    refine (gen_small hG rfl hvc hl hbase n0 n1 c m1 m30 hr _ rfl w hw hB).mono ?_
    rintro e w' ⟨he, g, o, c', h1, h2⟩
    exact ⟨he, g, o, _, c', h1, h2⟩
  · rw [if_neg c] at eC
    refine (gen_large hG rfl hvc hl hbase n0 n1 c eC S8 Sh m1 m30 hr _ rfl w hw hB).mono ?_
    rintro e w' ⟨he, g, o, c', h1, h2⟩
    exact ⟨he, g, o, _, c', h1, h2⟩

set_option maxHeartbeats 400000 in
set_option maxRecDepth 100000 in
theorem Bytes_calls {w : World} {b g o n c : Nat} {L : List Int} (hS : BufS w b g o n c L) (hn : 0 < n) :
    Calls Try.prog 11 #[.pointer (some ⟨b, 0, none⟩)] w fun e w' => e = .returned (.slice (some ⟨g, o, none⟩) n c) ∧ Below w.heap.size w w' := by
  obtain ⟨c0, c1⟩ := hS.cell0
  have hc := hS.cap
  have i0 : (0 : Int) ≤ (n : Int) := by omega
  have w0 : IntKind.i64.wrap 0 = 0 := by rw [IntWalk.i64_in _ (by omega)]
  go_enter Try.func11, Try.ntmps11
  go_wp2
  go_quiet (fail)
  go_wp2
  go_ret
  exact ⟨rfl, pw_below_drewN (Below.refl _ _) _⟩

/-- a row is told, and nothing else has changed -/
def OneRow (w : World) (l : List Int) (e : Ending) (w' : World) : Prop :=
  ∃ A c, e = .returned (.slice A l.length c) ∧ Kd.C (Kd.int .u8) w' A l.length l ∧ l.length ≤ c ∧ Below w.heap.size w w'
end Go.Proofs.Ytpdibidfjhjoeaa.Bl
