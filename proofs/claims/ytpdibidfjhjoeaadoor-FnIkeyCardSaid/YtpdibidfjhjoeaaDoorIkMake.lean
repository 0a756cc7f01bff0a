/- Internal keys made: makeInternalKey, IkeyMake. -/
import Derived.Test.YtpdibidfjhjoeaaDoorIk
import Derived.Laws.BitsAllLaws
namespace Go.Proofs.YtpdibidfjhjoeaaDoor.Ik
open Go.RowKit Go.Proofs.YtpdibidfjhjoeaaDoorW.PrintWords Go.Proofs.YtpdibidfjhjoeaaDoorW.PrintMore Go.Proofs.YtpdibidfjhjoeaaDoor.Cmp Go.Proofs.YtpdibidfjhjoeaaDoor.Run Go.Proofs.YtpdibidfjhjoeaaDoor.Con Go.Proofs.YtpdibidfjhjoeaaDoor.Le Go.Proofs.YtpdibidfjhjoeaaDoor.Sep
set_option linter.unusedVariables false

theorem or_low (x y : Int) (hx : 0 ≤ x) (hm : x % 256 = 0) (h1 : x < 18446744073709551616) (hy : 0 ≤ y) (h2 : y < 256) : Go.bits .or .u64 x y = x + y := by
  rw [u64_or x y hx h1 hy (by omega), nat_join 8 x.toNat y.toNat (by omega) (by omega)]
  omega

theorem cut_own {g o n c m : Nat} (hm : m ≤ n) (hc : m < c) (W : World) :
    (Instr.slice 22 (.slice (some ⟨g, o, none⟩) n c) (some (.int .i64 (m : Int))) none none).run Tryd.prog W = .ok (.slice (some ⟨g, o + m, none⟩) (n - m) (c - m)) W := by
  obtain ⟨i0, hi, hzz⟩ := Option.map_eq_some_iff.1 info_u8
  simp only [Prod.mk.injEq] at hzz
  have ht : Tryd.prog.underlying 22 = some (.slice 5) := Tryd.underlying22
  have hel : Tryd.prog.elem 22 = 5 := by simp [Program.elem, ht]
  have hu : Tryd.prog.underlying 22 = some (.slice (Tryd.prog.elem 22)) := by rw [hel]; exact ht
  rw [run_slice_l W 22 (some ⟨g, o, none⟩) n c hu .i64 (m : Int) (Int.natCast_nonneg _) (by omega), hel]
  have e : (⟨g, o, none⟩ : Addr).add m = ⟨g, o + m, none⟩ := by
    unfold Addr.add
    split
    · subst m; rfl
    · rfl
  have hne : ¬ c = m := by omega
  simp [sizeOf, typeInfo, hi, hzz.2.1, sliced, Result.andThen, hne, e]

theorem own_Blk {w : World} {base g n : Nat} {l : List Int} (h : w.ownsRow base 5 1 (.slice (some ⟨g, 0, none⟩) n n) n (nums .u8 l)) : Blk w g l := by
  rcases h.2 with ⟨h1, _⟩ | ⟨g', cap, cur, hv, _, hh, _, _, hs, ht⟩
  · cases h1
  · injection hv with hv _ hcap
    injection hv with hv
    injection hv with hv
    subst hv hcap
    unfold Blk
    rw [hh]
    have e : cur.toList = nums .u8 l := by
      rw [← ht, List.take_of_length_le (by rw [Array.length_toList, hs]; exact Nat.le_refl _)]
    rw [← e]

theorem ensure_nil {w : World} {x : Int} (h0 : 0 < x) (h1 : x ≤ 140737488355328) :
    Calls Tryd.prog 44 #[.slice none 0 0, .int .i64 x] w fun e w' => e = .returned (.slice (some ⟨w.heap.size, 0, none⟩) x.toNat x.toNat) ∧ Blk w' w.heap.size (List.replicate x.toNat 0) ∧ Below w.heap.size w w' := by
  obtain ⟨m, rfl⟩ : ∃ m : Nat, x = (m : Int) := ⟨x.toNat, by omega⟩
  have hmk := print_make (P := Tryd.prog) 22 5 .u8 1 Tryd.underlying22 info_u8 (by decide) m (by omega)
  have hown := Lib.hid (own_Blk (own_made w w.heap.size 5 .u8 m (Nat.le_refl _) (by omega)))
  rw [Int.toNat_natCast]
  have hm : 0 < m := by omega
  clear h0
  go_enter Tryd.func44, Tryd.ntmps44
  go_wp2
  go_ret
  exact ⟨rfl, hown.out, below_alloc (Below.refl _ _) _⟩

/-- the internal key of a user's key, a number and a kind -/
def ikey (key : List Int) (seq kt : Int) : List Int := key ++ leB (seq * 256 + kt)

/-- a row is told, and nothing else has changed -/
def OneRow (w : World) (l : List Int) (e : Ending) (w' : World) : Prop :=
  ∃ A c, e = .returned (.slice A l.length c) ∧ Kd.C (Kd.int .u8) w' A l.length l ∧ l.length ≤ c ∧ Below w.heap.size w w'

theorem put_key (key : List Int) (vs : List Int) : put (put (List.replicate (key.length + vs.length) 0) 0 key) key.length vs = key ++ vs := by
  unfold put
  simp [List.drop_append]

theorem info_size : (Tryd.prog.info? 5).map (·.size) = some 1 := by kernel_rfl

theorem nums_splice (l vs : List Int) (o : Nat) : splice (nums .u8 l) o (nums .u8 vs) = nums .u8 (put l o vs) := by
  simp [splice, put, nums, List.map_take, List.map_drop]

theorem put_len (l vs : List Int) (o : Nat) (h : o + vs.length ≤ l.length) : (put l o vs).length = l.length := by
  unfold put; simp; omega

theorem nums_one (k : IntKind) (l : List Int) : ∀ v ∈ nums k l, v.oneCell' = true := by
  intro v hv
  simp only [nums, List.mem_map] at hv
  obtain ⟨x, _, rfl⟩ := hv
  rfl

set_option maxHeartbeats 4000000 in
set_option maxRecDepth 100000 in
theorem make_calls {w : World} {K : Option Addr} {c : Nat} {key : List Int} {seq kt : Int} (h : Kd.C (Kd.int .u8) w K key.length key) (hl : key.length ≤ 2147483647)
    (s0 : 0 ≤ seq) (s1 : seq ≤ 72057594037927935) (k0 : 0 ≤ kt) (k1 : kt ≤ 1) :
    Calls Tryd.prog 38 #[.slice none 0 0, .slice K key.length c, .int .u64 seq, .int .u64 kt] w (OneRow w (ikey key seq kt)) := by
  have hor : Go.bits .or .u64 (IntKind.u64.wrap (seq * 256)) kt = seq * 256 + kt := by
    rw [u64_wrap_id _ (by omega) (by omega)]
    exact or_low _ _ (by omega) (by omega) (by omega) k0 (by omega)
  have HO := Lib.hid hor
  clear hor
  have HK := Lib.hid h
  clear h
  go_enter Tryd.func38, Tryd.ntmps38
  go_wp2_with fail
  refine (ensure_nil (by omega) (by omega)).mono ?_
  rintro e w1 ⟨rfl, hk1, hb1⟩
  have en : ((key.length : Int) + 8).toNat = key.length + 8 := by omega
  rw [en] at hk1
  rw [en]
  clear en
  have K1 := Lib.hid hk1
  have B1 := Lib.hid hb1
  have HK1 := Lib.hid (Kd.C_below HK.out hb1)
  clear hk1 hb1
  obtain ⟨g, hg⟩ : ∃ g, g = w.heap.size := ⟨_, rfl⟩
  rw [← hg] at K1 ⊢
  have HG := Lib.hid hg
  clear hg
  go_wp2_with ((with_reducible refine gate_builtin (b := .copy) (xs := #[.tmp 20, .tmp 21]) rfl ?_); go_loud (refine wpList_copy_splice rfl (.tmp 20) (.tmp 21) 22 22 rfl 5 Tryd.underlying22 info_size _ _ _ _ _ _ rfl rfl g 0 (nums .u8 (List.replicate (key.length + 8) 0)) 5 K1.out (nums .u8 key) ?c1 ?c2 ?c3 (nums_one _ _) g w1 (Below.refl _ _) (Nat.le_refl _) ?_; (case c1 => first | (simp [nums]; done) | (simp [nums]; omega)); (case c2 => exact (fun _ => ⟨rfl, by obtain ⟨r1, r2, r3⟩ := C_ints HK1.out; obtain ⟨ad, hd, hc⟩ := r3 (by simpa [nums] using ‹0 < (nums IntKind.u8 key).length›); exact ⟨ad, hd, fun j v hj => by rw [hc j (by have := (List.getElem?_eq_some_iff.1 hj).1; simpa [nums] using this)]; simp [nums] at hj; obtain ⟨y, hy, rfl⟩ := hj; simp [List.getD_eq_getElem?_getD, hy]⟩⟩)); (case c3 => first | (simp [nums]; done) | (simp [nums]; omega)); intro w2 hk2 hb2; rw [nums_splice] at hk2))
  have K2 : Hid (Blk w2 g (put (List.replicate (key.length + 8) 0) 0 key)) := hk2
  have B2 : Hid (Below w.heap.size w w2) := B1.out.trans (by have z := hb2; rw [HG.out] at z; exact z)
  clear hk2 hb2 K1 B1 HK1
  have hcut : ∀ W, (Instr.slice 22 (.slice (some ⟨g, 0, none⟩) (key.length + 8) (key.length + 8)) (some (.int .i64 (key.length : Int))) none none).run Tryd.prog W = .ok (.slice (some ⟨g, key.length, none⟩) 8 8) W := by
    intro W
    have z := cut_own (g := g) (o := 0) (n := key.length + 8) (c := key.length + 8) (m := key.length) (by omega) (by omega) W
    rw [Nat.zero_add, Nat.add_sub_cancel_left] at z
    exact z
  go_region_held3 (fun _ => True) (trivial)
    (first
      | (go_at_call 45; rw [HO.out]; refine (PutUint64_calls (w := w2.drew) (o := key.length) (n := 8) (c := 8) (v := seq * 256 + kt) (l := put (List.replicate (key.length + 8) 0) 0 key) K2.out (by rw [put_len _ _ _ (by simp)]; simp) (by omega) (by omega) (by omega)).mono ?_; rintro e w3 ⟨rfl, hk3, hg3⟩))
  go_wp2
  go_ret
  have e1 : put (put (List.replicate (key.length + 8) 0) 0 key) key.length (leB (seq * 256 + kt)) = ikey key seq kt := put_key key (leB (seq * 256 + kt))
  rw [e1] at hk3
  have e2 : (ikey key seq kt).length = key.length + 8 := by simp [ikey, leB]
  refine ⟨some ⟨g, 0, none⟩, key.length + 8, by rw [e2]; rfl, hk3.read (by omega), by omega, ?_⟩
  have z : Below w.heap.size w2 w3 := ⟨hg3.os, hg3.tape, hg3.output, hg3.size, fun k hk => hg3.block k (Nat.lt_of_lt_of_le hk B2.out.size) (fun e => by injection e with e; have := HG.out; omega)⟩
  exact B2.out.trans z

end Go.Proofs.YtpdibidfjhjoeaaDoor.Ik
