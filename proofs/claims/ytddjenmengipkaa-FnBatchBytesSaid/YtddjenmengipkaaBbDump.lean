/- Batches written: Put, Delete, Dump, impl.BatchDump. -/
import Derived.Test.YtddjenmengipkaaBbAppP
import Derived.Test.YtddjenmengipkaaBtLd
namespace Go.Proofs.Ytddjenmengipkaa.Bt
open Go.RowKit Go.Proofs.YtddjenmengipkaaW.PrintWords Go.Proofs.YtddjenmengipkaaW.PrintMore Go.Proofs.Ytddjenmengipkaa.PFnBatchLoads Go.Proofs.Ytddjenmengipkaa.Cmp
set_option linter.unusedVariables false

set_option maxHeartbeats 400000 in
set_option maxRecDepth 100000 in
theorem BDel_calls {w : World} {base g n : Nat} {vd vi : Value} {l k : List Int} {A : Option Addr} {c : Nat} (hB : Bw w base g vd vi l n) (hbase : base ≤ w.heap.size) (hk : ∀ W, Below base w W → Kd.C (Kd.int .u8) W A k.length k) (hkl : k.length ≤ 1048576) (hl : l.length ≤ 4194304) (hn : n ≤ 1048576) :
    Calls Try.prog 25 #[.pointer (some ⟨g, 0, none⟩), .slice A k.length c] w fun e w' => e = .returned (.tuple #[]) ∧ Below base w w' ∧ ∃ vd' vi', Bw w' base g vd' vi' (l ++ bwR (true, k, [])) (n + 1) := by
  have hP := Lib.hid (appendDel_calls (c := c) hB hbase hk hkl hl hn)
  clear hB hk hkl hl
  generalize k.length = kn at *
  go_enter Try.func25, Try.ntmps25
  go_wp2_with (go_at_call 34; (with_reducible refine hP.out.mono ?_); rintro e w1 ⟨rfl, hb, vd', vi', h1⟩)
  go_end0
  exact ⟨rfl, hb, vd', vi', h1⟩

set_option maxHeartbeats 400000 in
set_option maxRecDepth 100000 in
theorem BPut_calls {w : World} {base g n : Nat} {vd vi : Value} {l k v : List Int} {A Av : Option Addr} {c cv : Nat} (hB : Bw w base g vd vi l n) (hbase : base ≤ w.heap.size) (hk : ∀ W, Below base w W → Kd.C (Kd.int .u8) W A k.length k) (hv : ∀ W, Below base w W → Kd.C (Kd.int .u8) W Av v.length v) (hkl : k.length ≤ 1048576) (hvl : v.length ≤ 1048576) (hl : l.length ≤ 4194304) (hn : n ≤ 1048576) :
    Calls Try.prog 26 #[.pointer (some ⟨g, 0, none⟩), .slice A k.length c, .slice Av v.length cv] w fun e w' => e = .returned (.tuple #[]) ∧ Below base w w' ∧ ∃ vd' vi', Bw w' base g vd' vi' (l ++ bwR (false, k, v)) (n + 1) := by
  have hP := Lib.hid (appendPut_calls (c := c) (cv := cv) hB hbase hk hv hkl hvl hl hn)
  clear hB hk hv hkl hvl hl
  generalize k.length = kn at *
  generalize v.length = vn at *
  go_enter Try.func26, Try.ntmps26
  go_wp2_with (go_at_call 34; (with_reducible refine hP.out.mono ?_); rintro e w1 ⟨rfl, hb, vd', vi', h1⟩)
  go_end0
  exact ⟨rfl, hb, vd', vi', h1⟩

theorem Dump_calls {w : World} {g : Nat} {vd vi : Value} {il : Int} (h : w.heap[g]? = some (.cells #[vd, vi, .int .i64 il] 45 (0, 0))) :
    Calls Try.prog 27 #[.pointer (some ⟨g, 0, none⟩)] w fun e w' => e = .returned vd ∧ w = w' := by
  have e0 : w.cell? ⟨g, 0, none⟩ = some vd := (blk_cell h 0).trans rfl
  go_enter Try.func27, Try.ntmps27
  go_wp2
  go_ret
  exact ⟨rfl, rfl⟩

/-- records, as an argument reads -/
abbrev kR : Kd Rec := Kd.pair Kd.bool (Kd.pair (Kd.slice 5 (Kd.int .u8)) (Kd.slice 5 (Kd.int .u8)))

theorem at_R {w : World} {A : Option Addr} {n : Nat} {rs : List Rec} (h : Kd.C kR w A n rs) (i : Nat) (hi : i < n) : ∃ ad d k v K kc V vc, A = some ad ∧ rs[i]? = some (d, k, v) ∧ w.cell? (ad.add (i * 3)) = some (.bool d) ∧ w.cell? ⟨(ad.add (i * 3)).block, (ad.add (i * 3)).off + 1, none⟩ = some (.slice K k.length kc) ∧ w.cell? ⟨(ad.add (i * 3)).block, (ad.add (i * 3)).off + 2, none⟩ = some (.slice V v.length vc) ∧ Kd.C (Kd.int .u8) w K k.length k ∧ k.length ≤ kc ∧ Kd.C (Kd.int .u8) w V v.length v ∧ v.length ≤ vc := by
  obtain ⟨ad, c, e, _, hK, hc0⟩ := Kd.C_get h ((false, [], []) : Rec) (i : Int) (Int.natCast_nonneg _) (by omega)
  rw [Int.toNat_natCast] at hc0 hK
  have hlen := Kd.C_len h
  obtain ⟨d, k, v, hx⟩ : ∃ d k v, rs.getD i (false, [], []) = (d, k, v) := ⟨_, _, _, rfl⟩
  rw [hx] at hK
  have hget : rs[i]? = some (d, k, v) := by
    rw [List.getD_eq_getElem?_getD] at hx
    cases hr : rs[i]? with
    | none => have := List.getElem?_eq_none_iff.1 hr; omega
    | some y => rw [hr] at hx; simpa using hx
  have hc : ∀ j u, c[j]? = some u → w.cell? (ad.add (i * 3 + j)) = some u := hc0
  obtain ⟨_, _, rfl, rfl, ⟨_, _, rfl, ⟨K, kc, rfl, l1, g1⟩, ⟨V, vc, rfl, l2, g2⟩⟩⟩ := hK
  exact ⟨ad, d, k, v, K, kc, V, vc, e, hget, hc 0 _ rfl, by rw [← add_field _ _ 1 (by omega)]; exact hc 1 _ rfl, by rw [← add_field _ _ 2 (by omega)]; exact hc 2 _ rfl, g1, l1, g2, l2⟩

def BdTold (rs : List Rec) (w : World) (e : Ending) (w' : World) : Prop := Below w.heap.size w w' ∧ ∃ A c, e = .returned (.tuple #[.slice A (bwI rs).length c, .int .i64 (rs.length : Nat)]) ∧ Kd.C (Kd.int .u8) w' A (bwI rs).length (bwI rs) ∧ (bwI rs).length ≤ c

theorem take_next' {rs : List Rec} {i : Nat} {x : Rec} (h : rs[i]? = some x) : rs.take i ++ [x] = rs.take (i + 1) := by
  rw [List.take_add_one, h]
  rfl

theorem wt_take (rs : List Rec) (i : Nat) : wt (rs.take i) ≤ wt rs := by
  induction rs generalizing i with
  | nil => simp [wt]
  | cons x rs ih =>
    cases i with
    | zero => simp [wt]
    | succ i => simp only [List.take_succ_cons, wt]; have := ih i; omega

set_option maxHeartbeats 1600000 in
set_option maxRecDepth 100000 in
theorem BatchDump_calls {w : World} {A : Option Addr} {c : Nat} {rs : List Rec} (h : Kd.C kR w A rs.length rs) (hw : wt rs ≤ 1048576) (hn : rs.length ≤ 4096) :
    Calls Try.prog 13 #[.slice A rs.length c] w (BdTold rs w) := by
  have HC := Lib.hid h
  have HWT := Lib.hid hw
  clear h hw
  generalize hnn : rs.length = n at *
  have HN := Lib.hid hnn
  clear hnn
  have hb0 := below_alloc (Below.refl w.heap.size w) (.cells #[.slice none 0 0, .slice none 0 0, .int .i64 0] 45)
  have hk0 := blk_new w (.cells #[.slice none 0 0, .slice none 0 0, .int .i64 0] 45)
  have HB0 := Lib.hid hb0
  have HK0 := Lib.hid hk0
  clear hb0 hk0
  go_enter Try.func13, Try.ntmps13
  go_wp2
  go_loopw [11] (fun v11 wr => ∃ (i : Nat) (vd vi : Value), v11 = .int .i64 (i : Int) ∧ i ≤ n ∧ Hid (Bw wr w.heap.size w.heap.size vd vi (bwI (rs.take i)) i) ∧ Hid (Below w.heap.size w wr)) (fun v11 _ => n - (intOf v11).toNat)
  case atStart => exact ⟨0, .slice none 0 0, .slice none 0 0, rfl, Nat.zero_le _, Lib.hid ⟨⟨0, HK0.out⟩, own_nil _ _ _ _, Nat.zero_le _, ⟨[], own_nil _ _ _ _⟩, Nat.le_refl _⟩, HB0⟩
  case round =>
    obtain ⟨i, vd, vi, rfl, hi, HB, HR⟩ := hrel
    have hwt := wt_take rs i
    have hlen : (bwI (rs.take i)).length ≤ 4194304 := by
      have := bwI_len (rs.take i) (by have := HWT.out; omega)
      have h2 : (rs.take i).length ≤ i := List.length_take_le _ _
      have h3 := HWT.out
      omega
    have HLEN := Lib.hid hlen
    clear hwt hlen
    by_cases hlt : i < n
    · obtain ⟨ad, d, k, v, K, kc, V, vc, hA, hx, c0, c1, c2, hk, hkc, hv, hvc⟩ := at_R (Kd.C_below HC.out HR.out) i hlt
      subst hA
      have hmem : (d, k, v) ∈ rs := List.mem_of_getElem? hx
      have hm := mem_wt hmem
      simp only at hm
      have hkl : k.length ≤ 1048576 := by have := HWT.out; omega
      have hvl : v.length ≤ 1048576 := by have := HWT.out; omega
      have hb1 := below_alloc (Below.refl wr.heap.size wr) (.cells #[.bool d, .slice K k.length kc, .slice V v.length vc] 38)
      have hBw : Bw (wr.alloc (.cells #[.bool d, .slice K k.length kc, .slice V v.length vc] 38)) w.heap.size w.heap.size vd vi (bwI (rs.take i)) i := by
        obtain ⟨il, hcell⟩ := HB.out.cell
        obtain ⟨cs, hrow⟩ := HB.out.row
        exact ⟨⟨il, (hb1.block _ (blk_lt hcell)).trans hcell⟩, pw_own_below HB.out.data hb1, HB.out.cap, ⟨cs, pw_own_below hrow hb1⟩, HB.out.at_⟩
      have hR1 := below_then HR.out HR.out.size hb1
      have KC : ∀ W, Below w.heap.size (wr.alloc (.cells #[.bool d, .slice K k.length kc, .slice V v.length vc] 38)) W → Kd.C (Kd.int .u8) W K k.length k := by
        intro W hW
        obtain ⟨ad', d', k', v', K', kc', V', vc', hA', hx', e0, e1, e2, hk', _⟩ := at_R HC.out i hlt
        rw [hx] at hx'
        injection hx' with hx'
        injection hx' with _ hx'
        injection hx' with hx' _
        subst hx'
        injection hA' with hA'
        subst hA'
        have := pw_cell_below HR.out e1
        rw [c1] at this
        injection this with this
        injection this with this _ _
        subst this
        exact Kd.C_below hk' (hR1.trans hW)
      have VC : ∀ W, Below w.heap.size (wr.alloc (.cells #[.bool d, .slice K k.length kc, .slice V v.length vc] 38)) W → Kd.C (Kd.int .u8) W V v.length v := by
        intro W hW
        obtain ⟨ad', d', k', v', K', kc', V', vc', hA', hx', e0, e1, e2, hk', _, hv', _⟩ := at_R HC.out i hlt
        rw [hx] at hx'
        injection hx' with hx'
        injection hx' with _ hx'
        injection hx' with _ hx'
        subst hx'
        injection hA' with hA'
        subst hA'
        have := pw_cell_below HR.out e2
        rw [c2] at this
        injection this with this
        injection this with this _ _
        subst this
        exact Kd.C_below hv' (hR1.trans hW)
      have hDel := Lib.hid (BDel_calls (c := kc) hBw (Nat.le_trans HR.out.size hb1.size) KC hkl HLEN.out (by omega))
      have hPut := Lib.hid (BPut_calls (c := kc) (cv := vc) hBw (Nat.le_trans HR.out.size hb1.size) KC VC hkl hvl HLEN.out (by omega))
      have HR1 := Lib.hid hR1
      have HX := Lib.hid (take_next' hx)
      clear hx hk hkc hv hvc hmem hm hb1 hBw hR1 KC VC hkl hvl
      generalize k.length = kn at *
      generalize v.length = vn at *
      cases d
      · go_wp2_with (go_at_call 26; (with_reducible refine hPut.out.mono ?_); rintro e w4 ⟨rfl, hb4, vd', vi', h4⟩)
        go_roundw
        case rel => exact ⟨i + 1, vd', vi', by go_num, by omega, Lib.hid (by rw [← HX.out, bwI_snoc]; exact h4), Lib.hid (HR1.out.trans hb4)⟩
        case measure => simp [intOf]; omega
      · go_wp2_with (go_at_call 25; (with_reducible refine hDel.out.mono ?_); rintro e w4 ⟨rfl, hb4, vd', vi', h4⟩)
        go_roundw
        case rel => exact ⟨i + 1, vd', vi', by go_num, by omega, Lib.hid (by rw [← HX.out, bwI_snoc]; exact h4), Lib.hid (HR1.out.trans hb4)⟩
        case measure => simp [intOf]; omega
    · have : i = n := by omega
      subst this
      have hT : rs.take i = rs := by rw [← HN.out]; exact List.take_length
      rw [hT] at HB HLEN
      obtain ⟨il, hcell⟩ := HB.out.cell
      obtain ⟨cs, hrow⟩ := HB.out.row
      obtain ⟨Ai, ci, rfl⟩ := own_slice hrow
      obtain ⟨Ad, cd, rfl, hCd, hcd⟩ := own_C HB.out.data
      have HCELL := Lib.hid hcell
      have HCD := Lib.hid hCd
      clear hrow hcell hCd hcd
      have hbe := below_alloc (Below.refl wr.heap.size wr) (.cells #[] 5)
      have hce := (hbe.block w.heap.size (blk_lt HCELL.out)).trans HCELL.out
      have HCE := Lib.hid hce
      have hE : Hid ((wr.alloc (.cells #[] 5)).ownsRow wr.heap.size 5 1 (.slice (some ⟨wr.heap.size, 0, none⟩) 0 0) ([] : List Int).length (nums .u8 [])) := own_lit wr wr.heap.size 5 .u8 [] (Nat.le_refl _) (by decide)
      have HBE := Lib.hid hbe
      have hbl : (bwI rs).length ≤ 4194304 := HLEN.out
      have HBLN := Lib.hid hbl
      clear hbe hce hbl hlt hi
      go_wp2_with (first
        | (go_at_call 27; (with_reducible refine (Dump_calls HCE.out).mono ?_); rintro e w3 ⟨rfl, rfl⟩)
        | (at_builtin; (refine list_step (append_row_step wr.heap.size rfl (.tmp 28) (.tmp 30) 22 5 rfl Try.underlying22 info_u8 _ [] (bwI rs) _ _ _ rfl rfl hE.out (Kd.C_alloc HCD.out _) (below_alloc (Below.refl _ _) _) (by simp) (by have := HBLN.out; simp; omega) ?_)); intro v4 w4 ho4 hb4 hx1 hx2; clear hx1 hx2; have HC4 := Lib.hid ((hb4.block w.heap.size (blk_lt HCELL.out)).trans HCELL.out))
        | (go_at_call 20; (with_reducible refine (Len_calls HC4.out).mono ?_); rintro e w5 ⟨rfl, rfl⟩))
      obtain ⟨A4, c4, rfl, hr4, hc4⟩ := own_C (l := bwI rs) ho4
      go_ret2
      exact ⟨below_then HR.out HR.out.size hb4, A4, c4, (by rw [HN.out]; rfl), hr4, hc4⟩

end Go.Proofs.Ytddjenmengipkaa.Bt
