/- The hash of a key: binary.LittleEndian.Uint32, util.Hash, filter.bloomHash. -/
import Derived.Test.YtpdibidfjhjoeaaBlBase
namespace Go.Proofs.Ytpdibidfjhjoeaa.Bl
open Go.RowKit Go.Proofs.YtpdibidfjhjoeaaW.PrintWords Go.Proofs.YtpdibidfjhjoeaaW.PrintMore Go.Proofs.Ytpdibidfjhjoeaa.Cmp
set_option linter.unusedVariables false

set_option maxHeartbeats 800000 in
set_option maxRecDepth 100000 in
theorem Uint32_calls {w : World} {A : Option Addr} {n c : Nat} {l : List Int} (h : Kd.C (Kd.int .u8) w A n l) (h4 : 4 ≤ n) (hb : Byt l) :
    Calls Try.prog 39 #[.agg #[], .slice A n c] w fun e w' => e = .returned (.int .u32 (le4 (l.getD 0 0) (l.getD 1 0) (l.getD 2 0) (l.getD 3 0))) ∧ Below w.heap.size w w' := by
  have hl := Kd.C_len h
  obtain ⟨g, o, rfl, hc⟩ := cells_of (Kd.C_alloc h (.cells #[] 72)) (by omega)
  have g0 : ∀ j, j < 4 → 0 ≤ l.getD j 0 ∧ l.getD j 0 ≤ 255 := fun j hj => hb _ (by rw [List.getD_eq_getElem?_getD, List.getElem?_eq_getElem (by omega)]; exact List.getElem_mem _)
  have hn : Hid (le4 (l.getD 0 0) (l.getD 1 0) (l.getD 2 0) (l.getD 3 0) = l.getD 0 0 + l.getD 1 0 * 256 + l.getD 2 0 * 65536 + l.getD 3 0 * 16777216) := rfl
  have c0 := hc 0 (by omega)
  have c1 := hc 1 (by omega)
  have c2 := hc 2 (by omega)
  have c3 := hc 3 (by omega)
  obtain ⟨b0a, b0b⟩ := g0 0 (by omega)
  obtain ⟨b1a, b1b⟩ := g0 1 (by omega)
  obtain ⟨b2a, b2b⟩ := g0 2 (by omega)
  obtain ⟨b3a, b3b⟩ := g0 3 (by omega)
  have hm := Kd.C_max h
  clear hc g0 h hb
  rw [Nat.add_zero] at c0
  generalize l.getD 0 0 = b0 at *
  generalize l.getD 1 0 = b1 at *
  generalize l.getD 2 0 = b2 at *
  generalize l.getD 3 0 = b3 at *
  generalize le4 b0 b1 b2 b3 = r at *
  clear hl
  go_enter Try.func39, Try.ntmps39
  go_wp2
  go_quiet (fail)
  go_wp2
  go_ret
  refine ⟨ret_int ?_, (below_alloc (Below.refl _ _) _).trans ⟨rfl, rfl, rfl, Nat.le_refl _, fun _ _ => rfl⟩⟩
  simp (disch := omega) only [u32_or8, u32_or16, u32_or24]
  exact hn.out.symm

theorem getD_mem (l : List Int) (n : Nat) (h : n < l.length) : l.getD n 0 ∈ l := by
  rw [List.getD_eq_getElem?_getD, List.getElem?_eq_getElem h]
  exact List.getElem_mem h

theorem add_pos (a : Addr) (j : Nat) (h : 0 < j) : a.add j = ⟨a.block, a.off + j, none⟩ := by unfold Addr.add; rw [if_neg (by omega)]

theorem hash_step (l : List Int) (i : Nat) (h : i + 4 ≤ l.length) (x : Int) : hashI (l.drop i) x = hashI (l.drop (i + 4)) (mixI x (le4 ((l.drop i).getD 0 0) ((l.drop i).getD 1 0) ((l.drop i).getD 2 0) ((l.drop i).getD 3 0))) := by
  rw [drop_at l i (by omega), drop_at l (i + 1) (by omega), drop_at l (i + 1 + 1) (by omega), drop_at l (i + 1 + 1 + 1) (by omega)]
  rfl

set_option maxHeartbeats 800000 in
set_option maxRecDepth 100000 in
theorem Hash_calls {w : World} {A : Option Addr} {c : Nat} {l : List Int} (h : Kd.C (Kd.int .u8) w A l.length l) (hcap : l.length ≤ c) (hb : Byt l) :
    Calls Try.prog 38 #[.slice A l.length c, .int .u32 3164544308] w fun e w' => e = .returned (.int .u32 (bhash l)) ∧ Below w.heap.size w w' := by
  have HA := Lib.hid h
  have HB := Lib.hid hb
  have hm := Kd.C_max h
  have hr : Hid (hashI l (Go.bits .xor .u32 3164544308 (((l.length : Int) % 4294967296 * 3332679571) % 4294967296)) = bhash l) := rfl
  have sr := seed_range (l.length : Int)
  generalize bhash l = r at *
  generalize hn : l.length = n at *
  have HN := Lib.hid hn
  clear hn
  clear h hb
  go_enter Try.func38, Try.ntmps38
  go_wp2
  go_loopw [5, 6] (fun v5 v6 wr => ∃ (x : Int) (i : Nat), v5 = .int .u32 x ∧ v6 = .int .i64 (i : Int) ∧ 0 ≤ x ∧ x < 4294967296 ∧ i ≤ n ∧ i % 4 = 0 ∧ Hid (hashI (l.drop i) x = r) ∧ Hid (Below w.heap.size w wr)) (fun _ v6 _ => n - (intOf v6).toNat)
  case atStart => exact ⟨_, 0, rfl, rfl, sr.1, sr.2, by omega, rfl, hr, Below.refl _ _⟩
  case round =>
    obtain ⟨x, i, rfl, rfl, x0, x1, hi, h4, HX, HR⟩ := hrel
    clear hr sr
    by_cases hk : (i : Int) < (n : Int) - (n : Int) % 4
    · have hi4 : i + 4 ≤ n := by omega
      obtain ⟨A', hcut, hcs⟩ := cut_of Try.underlying23 (X := A) (n := n) (c := c) (m := i) hi
      have hU := Uint32_calls (c := c - i) (hcs wr.drew l hcap (Kd.C_below HA.out HR.out.drew)) (by omega) (byt_drop HB.out i)
      have hmm : n - i ≤ c - i := by omega
      have ic : i ≤ c := by omega
      have hst := hash_step l i (by rw [HN.out]; exact hi4) x
      rw [HX.out] at hst
      generalize le4 ((l.drop i).getD 0 0) ((l.drop i).getD 1 0) ((l.drop i).getD 2 0) ((l.drop i).getD 3 0) = wd at *
      have HS := Lib.hid hst.symm
      clear hcs hst
      go_wp2_with fail
      go_region_held3 (fun _ => True) (trivial)
        (first
          | (go_at_call 39; refine hU.mono ?_; rintro e w1 ⟨rfl, hb1⟩))
      go_wp2
      have hb2 := below_then HR.out.drew HR.out.drew.size hb1
      have hrg := mix_range x wd
      go_roundw
      case rel => exact ⟨_, i + 4, rfl, by simp, hrg.1, hrg.2, hi4, by omega, HS.out, hb2⟩
      case measure => simp [intOf]; omega
    · have hd : n = i ∨ n = i + 1 ∨ n = i + 2 ∨ n = i + 3 := by omega
      have hc := C_ints (Kd.C_below HA.out HR.out)
      have HX' := HX.out
      rcases hd with rfl | rfl | rfl | rfl
      · rw [List.drop_eq_nil_of_le (by rw [HN.out]; exact Nat.le_refl _)] at HX'
        have hx : x = r := HX'
        subst hx
        clear HX HX'
        go_wp2
        go_ret
        exact ⟨rfl, HR.out⟩
      · obtain ⟨ad, rfl, hcell⟩ := hc.2.2 (by omega)
        have k0 := hcell i (by omega)
        have b0 := HB.out (l.getD i 0) (getD_mem l i (by rw [HN.out]; omega))
        rw [drop_at l i (by rw [HN.out]; omega), List.drop_eq_nil_of_le (by rw [HN.out]; omega)] at HX'
        have HF : Hid (finI ((x + l.getD i 0) % 4294967296) = r) := HX'
        obtain ⟨b0a, b0b⟩ := b0
        generalize l.getD i 0 = y0 at *
        clear HX HX' hcell hc HA
        have e1 : ((i + 1 : Nat) : Int) - (i : Int) = 1 := by omega
        go_wp2
        go_ret
        exact ⟨ret_int HF.out, HR.out⟩
      · obtain ⟨ad, rfl, hcell⟩ := hc.2.2 (by omega)
        have k0 := hcell i (by omega)
        have k1 := hcell (i + 1) (by omega)
        rw [add_pos ad (i + 1) (by omega)] at k1
        have b0 := HB.out (l.getD i 0) (getD_mem l i (by rw [HN.out]; omega))
        have b1 := HB.out (l.getD (i + 1) 0) (getD_mem l (i + 1) (by rw [HN.out]; omega))
        rw [drop_at l i (by rw [HN.out]; omega), drop_at l (i + 1) (by rw [HN.out]; omega), List.drop_eq_nil_of_le (by rw [HN.out]; omega)] at HX'
        have HF : Hid (finI ((x + l.getD (i + 1) 0 * 256 + l.getD i 0) % 4294967296) = r) := by
          have z : finI (((x + l.getD (i + 1) 0 * 256) % 4294967296 + l.getD i 0) % 4294967296) = r := HX'
          rwa [Int.emod_add_emod] at z
        obtain ⟨b0a, b0b⟩ := b0
        obtain ⟨b1a, b1b⟩ := b1
        generalize l.getD i 0 = y0 at *
        generalize l.getD (i + 1) 0 = y1 at *
        clear HX HX' hcell hc HA
        have e1 : ((i + 2 : Nat) : Int) - (i : Int) = 2 := by omega
        have i1 : ((i : Int) + 1).toNat = i + 1 := by omega
        go_wp2
        go_ret
        exact ⟨ret_int HF.out, HR.out⟩
      · obtain ⟨ad, rfl, hcell⟩ := hc.2.2 (by omega)
        have k0 := hcell i (by omega)
        have k1 := hcell (i + 1) (by omega)
        rw [add_pos ad (i + 1) (by omega)] at k1
        have k2 := hcell (i + 2) (by omega)
        rw [add_pos ad (i + 2) (by omega)] at k2
        have b0 := HB.out (l.getD i 0) (getD_mem l i (by rw [HN.out]; omega))
        have b1 := HB.out (l.getD (i + 1) 0) (getD_mem l (i + 1) (by rw [HN.out]; omega))
        have b2 := HB.out (l.getD (i + 2) 0) (getD_mem l (i + 2) (by rw [HN.out]; omega))
        rw [drop_at l i (by rw [HN.out]; omega), drop_at l (i + 1) (by rw [HN.out]; omega), drop_at l (i + 2) (by rw [HN.out]; omega), List.drop_eq_nil_of_le (by rw [HN.out]; omega)] at HX'
        have HF : Hid (finI ((x + l.getD (i + 2) 0 * 65536 + l.getD (i + 1) 0 * 256 + l.getD i 0) % 4294967296) = r) := by
          have z : finI ((((x + l.getD (i + 2) 0 * 65536) % 4294967296 + l.getD (i + 1) 0 * 256) % 4294967296 + l.getD i 0) % 4294967296) = r := HX'
          rw [Int.emod_add_emod, Int.add_assoc, Int.emod_add_emod, ← Int.add_assoc] at z
          exact z
        obtain ⟨b0a, b0b⟩ := b0
        obtain ⟨b1a, b1b⟩ := b1
        obtain ⟨b2a, b2b⟩ := b2
        generalize l.getD i 0 = y0 at *
        generalize l.getD (i + 1) 0 = y1 at *
        generalize l.getD (i + 2) 0 = y2 at *
        clear HX HX' hcell hc HA
        have e1 : ((i + 3 : Nat) : Int) - (i : Int) = 3 := by omega
        have i1 : ((i : Int) + 1).toNat = i + 1 := by omega
        have i2 : ((i : Int) + 2).toNat = i + 2 := by omega
        go_wp2
        go_ret
        exact ⟨ret_int HF.out, HR.out⟩

set_option maxHeartbeats 400000 in
theorem bloomHash_calls {w : World} {A : Option Addr} {c : Nat} {l : List Int} (h : Kd.C (Kd.int .u8) w A l.length l) (hcap : l.length ≤ c) (hb : Byt l) :
    Calls Try.prog 37 #[.slice A l.length c] w fun e w' => e = .returned (.int .u32 (bhash l)) ∧ Below w.heap.size w w' := by
  have hH := Hash_calls h hcap hb
  generalize bhash l = r at *
  clear h hb
  go_enter Try.func37, Try.ntmps37
  go_wp2_with fail
  refine hH.mono ?_
  rintro e w1 ⟨rfl, hb1⟩
  go_wp2
  go_ret
  exact ⟨rfl, hb1⟩

end Go.Proofs.Ytpdibidfjhjoeaa.Bl
