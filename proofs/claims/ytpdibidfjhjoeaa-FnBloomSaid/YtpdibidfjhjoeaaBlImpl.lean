/- impl.BloomMake: the filter of some keys. -/
import Derived.Test.YtpdibidfjhjoeaaBlMake
import Derived.Test.YtpdibidfjhjoeaaBlLaw
namespace Go.Proofs.Ytpdibidfjhjoeaa.Bl
open Go.RowKit Go.Proofs.YtpdibidfjhjoeaaW.PrintWords Go.Proofs.YtpdibidfjhjoeaaW.PrintMore Go.Proofs.Ytpdibidfjhjoeaa.Cmp
set_option linter.unusedVariables false
attribute [local go_sem] max2_int min2_int max_two min_two max_three min_three max_four min_four

/-- rows of bytes, read -/
abbrev RowsK : Kd (List Int) := Kd.slice 5 (Kd.int .u8)

theorem row_at {w : World} {A : Option Addr} {n : Nat} {xs : List (List Int)} (h : Kd.C RowsK w A n xs) (i : Nat) (hi : i < n) :
    ∃ ad X c, A = some ad ∧ w.cell? (ad.add i) = some (.slice X (xs.getD i []).length c) ∧ Kd.C (Kd.int .u8) w X (xs.getD i []).length (xs.getD i []) ∧ (xs.getD i []).length ≤ c := by
  obtain ⟨ad, cs, hA, hl, hK, hc⟩ := Kd.C_get h ([] : List Int) (i : Int) (by omega) (by omega)
  obtain ⟨X, c, rfl, h1, h2⟩ := hK
  refine ⟨ad, X, c, hA, ?_, ?_, ?_⟩
  · have := hc 0 _ rfl
    simpa [Kd.slice] using this
  · simpa using h2
  · simpa using h1

theorem zero_buf (W : World) : (zeroValue 39).run Try.prog W = .ok (.agg zbuf) W := by
  obtain ⟨i, hi, hz⟩ := Option.map_eq_some_iff.1 (show (Try.prog.info? 39).map (·.zero) = some (some (.agg zbuf)) by kernel_rfl)
  simp [zeroValue, typeInfo, hi, hz]

set_option maxHeartbeats 1600000 in
set_option maxRecDepth 100000 in
theorem BloomMake_calls {w : World} {bits : Int} {A : Option Addr} {c : Nat} {keys : List (List Int)} (b0 : 0 ≤ bits) (b1 : bits ≤ 300) (h : Kd.C RowsK w A keys.length keys) (hc : keys.length ≤ c) (hl : keys.length ≤ 65536) (hb : ∀ k ∈ keys, Byt k) :
    Calls Try.prog 5 #[.int .i64 bits, .slice A keys.length c] w (OneRow w (bloomI bits keys)) := by
  have HK := Lib.hid h
  have HBY := Lib.hid hb
  have e1 : (if 1000 < bits then 1000 else bits) = bits := if_neg (by omega)
  have e2 : (if 0 < bits then bits else 0) = bits := by split <;> omega
  have hR : Hid (bloomI bits keys = (keys.map bhash).foldl (addKey (8 * sizeI bits keys.length) (manyI bits).toNat) (initI bits keys.length)) := rfl
  have hLen : 8 < (bloomI bits keys).length ∧ (bloomI bits keys).length ≤ 2457602 := by
    obtain ⟨S, eS, S8, Sh, _⟩ := size_eq bits keys.length b0 b1 hl
    rw [bloom_len, eS]
    omega
  generalize bloomI bits keys = R at *
  clear h hb
  generalize hn : keys.length = n at *
  have HN := Lib.hid hn
  clear hn
  have hNG := fun (w1 : World) => NewGen_calls bits b0 b1 w1
  go_enter Try.func5, Try.ntmps5
  go_wp2_with (first | (go_at_call 10; refine (New_calls bits _).mono ?_; rintro e w' ⟨rfl, rfl⟩) | (go_at_call 36; refine (hNG _).mono ?_; rintro e w1 ⟨rfl, hG1, hb1⟩))
  clear hNG
  go_loopw [16] (fun v16 wr => ∃ (i : Nat) (v : Value), v16 = .int .i64 (i : Int) ∧ i ≤ n ∧ Hid (GenS wr w.heap.size w.heap.size bits (manyI bits) v ((keys.take i).map bhash)) ∧ Hid (Below w.heap.size w wr)) (fun v16 _ => n - (intOf v16).toNat)
  case atStart => exact ⟨0, _, rfl, by omega, hG1, hb1⟩
  case round =>
    obtain ⟨i, v, rfl, hi, HG, HB⟩ := hrel
    clear hG1 hb1
    by_cases hk : (i : Int) < (n : Int)
    · have hin : i < n := by omega
      obtain ⟨ad, X, kc, rfl, hcell, hX, hXc⟩ := row_at (Kd.C_below HK.out HB.out) i hin
      have hby := HBY.out (keys.getD i []) (by rw [List.getD_eq_getElem?_getD, List.getElem?_eq_getElem (by rw [HN.out]; exact hin)]; exact List.getElem_mem _)
      have et : (keys.take (i + 1)).map bhash = (keys.take i).map bhash ++ [bhash (keys.getD i [])] := by
        rw [List.take_succ_eq_append_getElem (by rw [HN.out]; exact hin), List.map_append]
        simp [List.getD_eq_getElem?_getD, List.getElem?_eq_getElem (show i < keys.length by rw [HN.out]; exact hin)]
      have hAdd := Add_calls HG.out HB.out.size (by simp; omega) hX hXc hby
      rw [← et] at hAdd
      clear et hX hby
      go_wp2_with (first | (go_at_call 41; refine hAdd.mono ?_; rintro e w2 ⟨rfl, v2, hG2, hb2⟩))
      have hB2 := Lib.hid (HB.out.trans hb2)
      go_roundw
      case rel => exact ⟨i + 1, v2, by simp, by omega, hG2, hB2⟩
      case measure => simp [intOf]; omega
    · have ei : i = n := by omega
      subst ei
      rw [List.take_of_length_le (by rw [HN.out]; exact Nat.le_refl _)] at HG
      have hz := HB.out.size
      have hz0 := zero_buf
      have hGe := Generate_calls HG.out hz b0 b1 (by simp; rw [HN.out]; exact hl) (fun x hx => by obtain ⟨k, _, rfl⟩ := List.mem_map.1 hx; exact bhash_range k) (wr.alloc (.cells zbuf 39)) (blk_new wr _) (below_alloc (Below.refl _ _) _)
      rw [List.length_map, HN.out, ← hR.out] at hGe
      clear HG hR
      have hBr := HB.out
      go_wp2_with (first | (go_at_call 42; refine hGe.mono ?_; rintro e w3 ⟨rfl, g, o, m, cc, hS3, hb3⟩))
      have hm := hS3.len
      subst hm
      have hBy := Bytes_calls (hS3.below (below_alloc (Below.refl _ _) (.cells #[] 5))) (by omega)
      have hRd : Hid (Kd.C (Kd.int .u8) w3 (some ⟨g, o, none⟩) R.length R) := ints_C ⟨rfl, by omega, fun _ => ⟨⟨g, o, none⟩, rfl, fun j hj => by
        have z := (hS3.at_ j hj).1
        rcases Nat.eq_zero_or_pos j with e | e
        · subst e; rw [add_zero]; exact z
        · rw [add_pos _ _ e]; exact z⟩⟩
      have hB3 := Lib.hid (hBr.trans (hb3.mono (Nat.le_refl _)))
      clear hGe hb3 hBr
      go_wp2_with fail
      refine hBy.mono ?_
      rintro e w4 ⟨rfl, hb4⟩
      have hz3 := Lib.hid hB3.out.size
      have hb34 := Lib.hid (below_then (below_alloc (Below.refl w3.heap.size w3) (.cells #[] 5)) (by simp [World.alloc_eq]) hb4)
      have hB4 := Lib.hid (below_then hB3.out hz3.out hb34.out)
      have hz4 := Lib.hid hB4.out.size
      have ho4 : Hid (w4.ownsRow w.heap.size 5 1 (.slice (some ⟨w3.heap.size, 0, none⟩) 0 0) ([] : List Int).length (nums .u8 [])) := pw_own_below (own_lit w3 w.heap.size 5 .u8 [] hz3.out (by decide)) hb4
      have hR4 := Lib.hid (Kd.C_below hRd.out hb34.out)
      clear hb4 hb34 hRd hB3 hz3 hBy hS3
      obtain ⟨l0, l1⟩ := hLen
      go_wp2_with (at_builtin; go_loud (refine print_append_row w.heap.size rfl (.tmp 30) (.tmp 32) 23 5 .u8 1 rfl Try.underlying23 info_u8 (by decide) _ [] R _ _ _ rfl rfl ho4.out (C_ints hR4.out) hB4.out hz4.out (by simp; omega) ?_); intro v5 w5 ho5 hb5 _ _)
      obtain ⟨A5, c5, rfl, hr5, hc5⟩ := own_C ho5
      rw [List.nil_append] at hr5 hc5 ⊢
      go_ret
      exact ⟨A5, c5, rfl, hr5, hc5, hb5⟩

end Go.Proofs.Ytpdibidfjhjoeaa.Bl
