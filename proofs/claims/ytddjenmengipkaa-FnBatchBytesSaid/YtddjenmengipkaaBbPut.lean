/- Batches written: a block that is filled, numbers put into it. -/
import Derived.Test.YtddjenmengipkaaBbPure
import Derived.Laws.Bits128
namespace Go.Proofs.Ytddjenmengipkaa.Bt
open Go.RowKit Go.Proofs.YtddjenmengipkaaW.PrintWords Go.Proofs.YtddjenmengipkaaW.PrintMore Go.Proofs.Ytddjenmengipkaa.PFnBatchLoads Go.Proofs.Ytddjenmengipkaa.Cmp
set_option linter.unusedVariables false

/-- a block of bytes whose first ones are l -/
def Buf (w : World) (dg cap : Nat) (l : List Int) : Prop := ∃ cur : Array Value, w.heap[dg]? = some (.cells cur 5 (0, 0)) ∧ cur.size = cap ∧ cur.toList.take l.length = nums .u8 l

theorem Buf.cell {w : World} {dg cap : Nat} {l : List Int} (h : Buf w dg cap l) {i : Nat} (hi : i < cap) : ∃ v, w.cell? ⟨dg, i, none⟩ = some v := by
  obtain ⟨cur, h1, h2, _⟩ := h
  exact ⟨cur[i]'(by omega), by rw [blk_cell h1 i]; simp [h2, hi]⟩

theorem Buf.frozen {w : World} {dg cap : Nat} {l : List Int} (h : Buf w dg cap l) (i : Nat) : w.frozen? ⟨dg, i, none⟩ = false := by
  obtain ⟨cur, h1, _, _⟩ := h
  exact blk_frozen h1 i

theorem Buf.put {w : World} {dg cap : Nat} {l : List Int} (h : Buf w dg cap l) (hi : l.length < cap) (b : Int) : Buf (w.setCell ⟨dg, l.length, none⟩ (.int .u8 b)) dg cap (l ++ [b]) := by
  obtain ⟨cur, h1, h2, h3⟩ := h
  refine ⟨cur.setIfInBounds l.length (.int .u8 b), blk_set h1 l.length _, by simpa using h2, ?_⟩
  rw [Array.toList_setIfInBounds, List.length_append, List.length_singleton]
  have hlt : l.length < cur.toList.length := by simp [h2, hi]
  rw [List.take_succ_eq_append_getElem (by simpa using hlt), List.take_set_of_le (Nat.le_refl _), h3]
  simp [nums]

theorem grown_set (w : World) (dg i : Nat) (v : Value) : w.grownBy (w.setCell ⟨dg, i, none⟩ v) (some dg) :=
  ⟨rfl, rfl, rfl, by simp, fun k _ hk => Below.heap_setCell _ _ _ k (fun e => hk (by rw [e]))⟩

theorem Buf.below {w w1 : World} {dg cap : Nat} {l : List Int} (h : Buf w dg cap l) (hb : Below w.heap.size w w1) : Buf w1 dg cap l := by
  obtain ⟨cur, h1, h2, h3⟩ := h
  exact ⟨cur, (hb.block dg (blk_lt h1)).trans h1, h2, h3⟩

theorem Buf.far {w w1 : World} {dg cap : Nat} {l : List Int} (h : Buf w dg cap l) (hb : w1.heap[dg]? = w.heap[dg]?) : Buf w1 dg cap l := by
  obtain ⟨cur, h1, h2, h3⟩ := h
  exact ⟨cur, hb.trans h1, h2, h3⟩

theorem Buf.own {w : World} {base dg cap : Nat} {l : List Int} (h : Buf w dg cap l) (hb : base ≤ dg) (hl : l.length ≤ cap) (hc : cap ≤ maxLen) : w.ownsRow base 5 1 (.slice (some ⟨dg, 0, none⟩) l.length cap) l.length (nums .u8 l) := by
  obtain ⟨cur, h1, h2, h3⟩ := h
  refine ⟨by simp [nums], Or.inr ⟨dg, cap, cur, rfl, hb, h1, hl, hc, by omega, by rw [Nat.mul_one]; exact h3⟩⟩

theorem own_Buf {w : World} {base dg c : Nat} {l : List Int} (h : w.ownsRow base 5 1 (.slice (some ⟨dg, 0, none⟩) l.length c) l.length (nums .u8 l)) : Buf w dg c l := by
  rcases h.2 with ⟨h1, _⟩ | ⟨g, cap, cur, hv, hb, hh, h1, h2, h3, h4⟩
  · cases h1
  · injection hv with e1 _ e2
    injection e1 with e1
    injection e1 with e1
    subst e1 e2
    exact ⟨cur, hh, by omega, by rw [Nat.mul_one] at h4; exact h4⟩

set_option maxRecDepth 100000 in
theorem low_or (y : Int) (h0 : 0 ≤ y) : Go.bits .or .u8 (y % 256) 128 = y % 128 + 128 := by
  by_cases h : y % 256 < 128
  · rw [u8_or128_right _ (by omega) h]; omega
  · have e : Go.bits .or .u8 (y % 256) 128 = y % 256 := by
      obtain ⟨k, hk⟩ := Int.eq_ofNat_of_zero_le (show 0 ≤ y % 256 by omega)
      have hk2 : k < 256 := by omega
      have hk3 : 128 ≤ k := by omega
      rw [hk]
      have := u8_or_nat k 128 hk2 (by decide)
      rw [show ((128 : Nat) : Int) = 128 from rfl] at this
      rw [this]
      have hf : ∀ j : Fin 256, 128 ≤ j.val → j.val ||| 128 = j.val := by decide
      rw [hf ⟨k, hk2⟩ hk3]
    rw [e]; omega

set_option maxHeartbeats 800000 in
set_option maxRecDepth 100000 in
theorem PutUvarint_calls {w : World} {dg cap m c : Nat} {l : List Int} {x : Nat} (h : Buf w dg cap l) (hm : (uvO x).length ≤ m) (hcap : l.length + m ≤ cap) (hx : x ≤ 4294967296) (hm2 : m ≤ 140737488355328) :
    Calls Try.prog 39 #[.slice (some ⟨dg, l.length, none⟩) m c, .int .u64 (x : Int)] w fun e w' => e = .returned (.int .i64 ((uvO x).length : Nat)) ∧ Hid (Buf w' dg cap (l ++ uvO x)) ∧ Hid (w.grownBy w' (some dg)) := by
  have H := Lib.hid h
  clear h
  have hr : Hid (uvO x = [] ++ uvO x) := rfl
  generalize hU : uvO x = U at *
  have HU := Lib.hid hU
  clear hU
  generalize hn : l.length = n at *
  have HN := Lib.hid hn
  clear hn
  go_enter Try.func39, Try.ntmps39
  go_wp2
  go_loopw [1, 5] (fun v1 v5 wr => ∃ (y i : Nat) (pre : List Int), v1 = .int .u64 (y : Int) ∧ v5 = .int .i64 (i : Int) ∧ y ≤ 4294967296 ∧ i + (uvO y).length ≤ m ∧ Hid (i = pre.length) ∧ Hid (U = pre ++ uvO y) ∧ Hid (Buf wr dg cap (l ++ pre)) ∧ Hid (w.grownBy wr (some dg))) (fun v1 _ _ => (intOf v1).toNat)
  case atStart => exact ⟨x, 0, [], rfl, rfl, hx, by rw [HU.out]; omega, rfl, by rw [HU.out]; exact rfl, by rw [List.append_nil]; exact H, World.grownBy.refl _ _⟩
  case round =>
    obtain ⟨y, i, pre, rfl, rfl, hy, hi, HI, HP, HB, HG⟩ := hrel
    by_cases h128 : y < 128
    · have hu := uvO_lt h128
      rw [hu] at hi HP
      simp only [List.length_singleton] at hi
      have hlen : (l ++ pre).length = n + i := by rw [List.length_append, HN.out, HI.out]
      obtain ⟨ov, hov⟩ := HB.out.cell (i := n + i) (by omega)
      have hfz := HB.out.frozen (n + i)
      have hlt : ¬ (128 : Int) ≤ (y : Int) := by omega
      have hmod : (y : Int) % 256 = y := by omega
      clear hr hu
      go_wp2
      have hb := HB.out.put (by omega) (y : Int)
      rw [hlen] at hb
      have e1 : U.length = i + 1 := by rw [HP.out, List.length_append, List.length_singleton, ← HI.out]
      go_ret
      refine ⟨ret_int (by rw [e1]; omega), Lib.hid ?_, Lib.hid (HG.out.trans (grown_set _ _ _ _))⟩
      rw [HP.out, ← List.append_assoc]
      exact hb
    · have hu := uvO_ge h128
      have hul := uvO_len 5 (y / 128) (by omega) (by omega)
      rw [hu] at hi HP
      simp only [List.length_cons] at hi
      have hlen : (l ++ pre).length = n + i := by rw [List.length_append, HN.out, HI.out]
      obtain ⟨ov, hov⟩ := HB.out.cell (i := n + i) (by omega)
      have hfz := HB.out.frozen (n + i)
      have hor := low_or (y : Int) (by omega)
      have hge : (128 : Int) ≤ (y : Int) := by omega
      clear hr hu
      go_wp2
      go_roundw
      case rel =>
        have hb := HB.out.put (by omega) ((y % 128 + 128 : Nat) : Int)
        rw [hlen] at hb
        refine ⟨y / 128, i + 1, pre ++ [((y % 128 + 128 : Nat) : Int)], congrArg _ (by omega), by go_num, by omega, by omega, Lib.hid (by rw [List.length_append, List.length_singleton, ← HI.out]), Lib.hid (by rw [HP.out]; simp), Lib.hid ?_, Lib.hid (HG.out.trans (grown_set _ _ _ _))⟩
        rw [← List.append_assoc]
        exact hb
      case measure => simp [intOf]; omega

end Go.Proofs.Ytddjenmengipkaa.Bt
