/- impl.Separator and impl.Successor: their contracts. -/
import Derived.Test.YtpdibidfjhjoeaaDoorSep
import Derived.Deep.RegionHeld3
import Derived.Lib.SliceRun
namespace Go.Proofs.YtpdibidfjhjoeaaDoor.Sep
open Go.RowKit Go.Proofs.YtpdibidfjhjoeaaDoorW.PrintWords Go.Proofs.YtpdibidfjhjoeaaDoor.Cmp Go.Proofs.YtpdibidfjhjoeaaDoor.Run Go.Proofs.YtpdibidfjhjoeaaDoor.Con Go.Proofs.YtpdibidfjhjoeaaDoor.SepPlain
set_option linter.unusedVariables false

/-- append(v, ys...) of bytes inside a drawn region: v a row of one's own, ys read -/
theorem append_row_step {P : Program} {ops : Array Oper} {o : Oper} {a : Act} {Q : Exit → Act → World → Prop} {Kc : Act → World → Prop} {w0 W : World} (base : Nat)
    (hw : Region.wanted o (yielded ops a.tmps) = true) (s x : Operand) (t e : TypeId)
    (ho : o.op = .call { callee := .builtin .append, args := #[s, x], argTypes := #[t, t] })
    (ht : P.underlying t = some (.slice e)) (hinfo : (P.info? e).map (fun i => (i.zero, i.size, i.bytes)) = some (some (.int .u8 0), 1, 1))
    (v : Value) (xs ys : List Int) (A : Option Addr) (m c : Nat) (hs : a.eval s = v) (hx : a.eval x = .slice A m c)
    (HO : W.ownsRow base e 1 v xs.length (nums .u8 xs)) (HR : Kd.C (Kd.int .u8) W A m ys) (HB : Below base w0 W) (hbase : base ≤ W.heap.size) (hl : xs.length + m ≤ 140737488355328)
    (h : ∀ v1 w1, w1.ownsRow base e 1 v1 (xs ++ ys).length (nums .u8 (xs ++ ys)) → Below base w0 w1 → W.grownBy w1 v.ownBlock → (v1.ownBlock = v.ownBlock ∨ ∃ b, v1.ownBlock = some b ∧ W.heap.size ≤ b) → Kc (a.put o.dst v1) w1) :
    if Region.wanted o (yielded ops a.tmps) = true then Oper.wp P o a W Kc Q else Kc (a.put o.dst undef) W :=
  Kd.R_append_rows_step (Kd.int .u8) (Rr := (Kd.int .u8).K W) base hw s x t e (.int .u8 0) 1 ho ht hinfo rfl (by decide) (by decide) v xs ys A m c (fun _ => True) (fun _ => False) hs hx
    (Kd.R_of_own HO (fun _ _ => trivial)) HR (fun _ _ h => h) (fun _ h => h.elim) (fun _ _ => trivial) HB hbase (by omega)
    (fun v1 w1 h1 h2 h3 h4 => h v1 w1 (Kd.own_of_R h1) h2 h3 h4)

/-- a row of bytes and a Bool are told; nothing else has changed -/
def TwoRow (w : World) (l : List Int) (b : Bool) (e : Ending) (w' : World) : Prop :=
  ∃ A c, e = .returned (.tuple #[.slice A l.length c, .bool b]) ∧ Kd.C (Kd.int .u8) w' A l.length l ∧ l.length ≤ c ∧ Below w.heap.size w w'

theorem own_C {w : World} {base : Nat} {e : TypeId} {v : Value} {l : List Int} (h : w.ownsRow base e 1 v l.length (nums .u8 l)) : ∃ A c, v = .slice A l.length c ∧ Kd.C (Kd.int .u8) w A l.length l ∧ l.length ≤ c := by
  obtain ⟨A, c, hv, hr⟩ := own_reads h
  refine ⟨A, c, hv, ints_C hr, ?_⟩
  rcases h.2 with ⟨h1, h2⟩ | ⟨g, cap, cur, h1, _, _, h2, _⟩
  · omega
  · rw [hv] at h1; injection h1 with _ _ h3; omega

set_option maxRecDepth 100000 in
set_option maxHeartbeats 1600000 in
theorem Successor_some {w : World} {D : Option Addr} {cd : Nat} {ds s : List Int} {B : Option Addr} {cb : Nat} {lb : List Int}
    (hd : Kd.C (Kd.int .u8) w D ds.length ds) (hb : Kd.C (Kd.int .u8) w B lb.length lb) (hcb : lb.length ≤ cb) (bb : Byt lb) (h : succI lb = some s) (hl : ds.length + lb.length ≤ 35184372088832) :
    Calls Tryd.prog 10 #[.slice D ds.length cd, .slice B lb.length cb] w (TwoRow w (ds ++ s) false) := by
  have HD := Lib.hid hd
  have HB := Lib.hid hb
  have BB := Lib.hid bb
  have HN := Lib.hid h
  have ho0 : Hid (((w.alloc (.cells #[] 5)).drew).ownsRow w.heap.size 5 1 (.slice (some ⟨w.heap.size, 0, none⟩) 0 0) ([] : List Int).length (nums .u8 [])) := own_lit w w.heap.size 5 .u8 [] (Nat.le_refl _) (by decide)
  have hnil : ∀ (wx : World) (a : Option Addr) (n c : Nat), (binOp .eql 22 (.slice a n c) (.slice none 0 0)).run Tryd.prog wx = .ok (.bool a.isNone) wx := fun wx a n c => Lib.run_eql_slice_nil wx 22 5 a n c 0 0 Tryd.underlying22
  clear hd hb bb h
  go_enter Tryd.func10, Tryd.ntmps10
  go_wp2
  go_region_held3 (fun _ => True) (trivial)
    (first
      | (refine append_row_step w.heap.size rfl (.tmp 8) (.tmp 9) 22 5 rfl Tryd.underlying22 info_u8 _ [] ds _ _ _ rfl rfl ho0.out (Kd.C_alloc HD.out _) ((below_alloc (Below.refl _ _) _).drew) (by simp) (by simp; omega) ?_; intro v1 w1 ho1 hb1 _ _)
      | (go_at_call 25; refine (succ_some w.heap.size ho1 hb1.size (Kd.C_below HB.out hb1) hcb BB.out HN.out (by simp; omega)).mono ?_; rintro e w2 ⟨v2, rfl, ho2, hb2⟩))
  have len := succI_len lb s HN.out
  have lt2 : (ds ++ s).length ≤ 140737488355328 := by simp; omega
  obtain ⟨g2, c2, rfl, _⟩ := own_form ho2 (by simp; omega)
  obtain ⟨A2, c2', e2, hr2, hc2⟩ := own_C ho2
  injection e2 with eA _ ec
  subst eA ec
  have HC2 := Lib.hid hr2
  have HB2 : Hid (Below w.heap.size w w2) := hb1.trans hb2
  clear hr2 hb1 ho1 hb2 ho2
  have ho3 : Hid ((w2.alloc (.cells #[] 5)).ownsRow w2.heap.size 5 1 (.slice (some ⟨w2.heap.size, 0, none⟩) 0 0) ([] : List Int).length (nums .u8 [])) := own_lit w2 w2.heap.size 5 .u8 [] (Nat.le_refl _) (by decide)
  go_wp2_with (at_builtin; go_loud (refine print_append_row w2.heap.size rfl (.tmp 13) (.tmp 14) 22 5 .u8 1 rfl Tryd.underlying22 info_u8 (by decide) _ [] (ds ++ s) _ _ _ rfl rfl ho3.out (C_ints (Kd.C_alloc HC2.out _)) (below_alloc (Below.refl _ _) _) (by simp) (by simp at lt2 ⊢; omega) ?_); intro v3 w3 ho3' hb3 _ _; have HO3 := Lib.hid ho3'; have HB3 := Lib.hid hb3; clear ho3' hb3)
  obtain ⟨A3, c3, rfl, hr3, hc3⟩ := own_C HO3.out
  go_ret2
  exact ⟨A3, c3, rfl, hr3, hc3, below_then HB2.out HB2.out.size HB3.out⟩

set_option maxRecDepth 100000 in
set_option maxHeartbeats 1600000 in
theorem Successor_none {w : World} {D : Option Addr} {cd : Nat} {ds : List Int} {B : Option Addr} {cb : Nat} {lb : List Int}
    (hd : Kd.C (Kd.int .u8) w D ds.length ds) (hb : Kd.C (Kd.int .u8) w B lb.length lb) (hcb : lb.length ≤ cb) (bb : Byt lb) (h : succI lb = none) (hl : ds.length + lb.length ≤ 35184372088832) :
    Calls Tryd.prog 10 #[.slice D ds.length cd, .slice B lb.length cb] w (TwoRow w [] true) := by
  have HD := Lib.hid hd
  have HB := Lib.hid hb
  have BB := Lib.hid bb
  have HN := Lib.hid h
  have ho0 : Hid (((w.alloc (.cells #[] 5)).drew).ownsRow w.heap.size 5 1 (.slice (some ⟨w.heap.size, 0, none⟩) 0 0) ([] : List Int).length (nums .u8 [])) := own_lit w w.heap.size 5 .u8 [] (Nat.le_refl _) (by decide)
  have hnil : ∀ (wx : World) (a : Option Addr) (n c : Nat), (binOp .eql 22 (.slice a n c) (.slice none 0 0)).run Tryd.prog wx = .ok (.bool a.isNone) wx := fun wx a n c => Lib.run_eql_slice_nil wx 22 5 a n c 0 0 Tryd.underlying22
  clear hd hb bb h
  go_enter Tryd.func10, Tryd.ntmps10
  go_wp2
  go_region_held3 (fun _ => True) (trivial)
    (first
      | (refine append_row_step w.heap.size rfl (.tmp 8) (.tmp 9) 22 5 rfl Tryd.underlying22 info_u8 _ [] ds _ _ _ rfl rfl ho0.out (Kd.C_alloc HD.out _) ((below_alloc (Below.refl _ _) _).drew) (by simp) (by simp; omega) ?_; intro v1 w1 ho1 hb1 _ _)
      | (go_at_call 25; refine (succ_none (Kd.C_below HB.out hb1) hcb BB.out HN.out).mono ?_; rintro e w2 ⟨rfl, hb2⟩))
  have HB2 : Hid (Below w.heap.size w w2) := hb1.trans (hb2.mono hb1.size)
  clear hb1 ho1 hb2
  have ho3 : Hid ((w2.alloc (.cells #[] 5)).ownsRow w2.heap.size 5 1 (.slice (some ⟨w2.heap.size, 0, none⟩) 0 0) ([] : List Int).length (nums .u8 [])) := own_lit w2 w2.heap.size 5 .u8 [] (Nat.le_refl _) (by decide)
  go_wp2_with (at_builtin; go_loud (refine print_append_row w2.heap.size rfl (.tmp 13) (.tmp 14) 22 5 .u8 1 rfl Tryd.underlying22 info_u8 (by decide) _ [] [] _ _ _ rfl rfl ho3.out (C_ints (Kd.C_nil _ _)) (below_alloc (Below.refl _ _) _) (by simp) (by simp) ?_); intro v3 w3 ho3' hb3 _ _; have HO3 := Lib.hid ho3'; have HB3 := Lib.hid hb3; clear ho3' hb3)
  obtain ⟨A3, c3, rfl, hr3, hc3⟩ := own_C HO3.out
  go_ret2
  exact ⟨A3, c3, rfl, hr3, hc3, below_then HB2.out HB2.out.size HB3.out⟩

set_option maxRecDepth 100000 in
set_option maxHeartbeats 1600000 in
theorem Separator_some {w : World} {D : Option Addr} {cd : Nat} {ds s : List Int} {A : Option Addr} {ca : Nat} {la : List Int} {B : Option Addr} {cb : Nat} {lb : List Int}
    (hd : Kd.C (Kd.int .u8) w D ds.length ds) (ha : Kd.C (Kd.int .u8) w A la.length la) (hb : Kd.C (Kd.int .u8) w B lb.length lb) (hca : la.length ≤ ca) (ba : Byt la) (bb : Byt lb) (h : sepI la lb = some s) (hl : ds.length + la.length ≤ 35184372088832) :
    Calls Tryd.prog 11 #[.slice D ds.length cd, .slice A la.length ca, .slice B lb.length cb] w (TwoRow w (ds ++ s) false) := by
  have HD := Lib.hid hd
  have HA := Lib.hid ha
  have HB := Lib.hid hb
  have BA := Lib.hid ba
  have BB := Lib.hid bb
  have HN := Lib.hid h
  have ho0 : Hid (((w.alloc (.cells #[] 5)).drew).ownsRow w.heap.size 5 1 (.slice (some ⟨w.heap.size, 0, none⟩) 0 0) ([] : List Int).length (nums .u8 [])) := own_lit w w.heap.size 5 .u8 [] (Nat.le_refl _) (by decide)
  have hnil : ∀ (wx : World) (a : Option Addr) (n c : Nat), (binOp .eql 22 (.slice a n c) (.slice none 0 0)).run Tryd.prog wx = .ok (.bool a.isNone) wx := fun wx a n c => Lib.run_eql_slice_nil wx 22 5 a n c 0 0 Tryd.underlying22
  clear hd ha hb ba bb h
  go_enter Tryd.func11, Tryd.ntmps11
  go_wp2
  go_region_held3 (fun _ => True) (trivial)
    (first
      | (refine append_row_step w.heap.size rfl (.tmp 10) (.tmp 11) 22 5 rfl Tryd.underlying22 info_u8 _ [] ds _ _ _ rfl rfl ho0.out (Kd.C_alloc HD.out _) ((below_alloc (Below.refl _ _) _).drew) (by simp) (by simp; omega) ?_; intro v1 w1 ho1 hb1 _ _)
      | (go_at_call 26; refine (sep_some w.heap.size ho1 hb1.size (Kd.C_below HA.out hb1) (Kd.C_below HB.out hb1) hca BA.out BB.out HN.out (by simp; omega)).mono ?_; rintro e w2 ⟨v2, rfl, ho2, hb2⟩))
  have len := sepI_len la lb s HN.out
  have lt2 : (ds ++ s).length ≤ 140737488355328 := by simp; omega
  obtain ⟨g2, c2, rfl, _⟩ := own_form ho2 (by simp; omega)
  obtain ⟨A2, c2', e2, hr2, hc2⟩ := own_C ho2
  injection e2 with eA _ ec
  subst eA ec
  have HC2 := Lib.hid hr2
  have HB2 : Hid (Below w.heap.size w w2) := hb1.trans hb2
  clear hr2 hb1 ho1 hb2 ho2
  have ho3 : Hid ((w2.alloc (.cells #[] 5)).ownsRow w2.heap.size 5 1 (.slice (some ⟨w2.heap.size, 0, none⟩) 0 0) ([] : List Int).length (nums .u8 [])) := own_lit w2 w2.heap.size 5 .u8 [] (Nat.le_refl _) (by decide)
  go_wp2_with (at_builtin; go_loud (refine print_append_row w2.heap.size rfl (.tmp 16) (.tmp 17) 22 5 .u8 1 rfl Tryd.underlying22 info_u8 (by decide) _ [] (ds ++ s) _ _ _ rfl rfl ho3.out (C_ints (Kd.C_alloc HC2.out _)) (below_alloc (Below.refl _ _) _) (by simp) (by simp at lt2 ⊢; omega) ?_); intro v3 w3 ho3' hb3 _ _; have HO3 := Lib.hid ho3'; have HB3 := Lib.hid hb3; clear ho3' hb3)
  obtain ⟨A3, c3, rfl, hr3, hc3⟩ := own_C HO3.out
  go_ret2
  exact ⟨A3, c3, rfl, hr3, hc3, below_then HB2.out HB2.out.size HB3.out⟩

set_option maxRecDepth 100000 in
set_option maxHeartbeats 1600000 in
theorem Separator_none {w : World} {D : Option Addr} {cd : Nat} {ds : List Int} {A : Option Addr} {ca : Nat} {la : List Int} {B : Option Addr} {cb : Nat} {lb : List Int}
    (hd : Kd.C (Kd.int .u8) w D ds.length ds) (ha : Kd.C (Kd.int .u8) w A la.length la) (hb : Kd.C (Kd.int .u8) w B lb.length lb) (hca : la.length ≤ ca) (ba : Byt la) (bb : Byt lb) (h : sepI la lb = none) (hl : ds.length + la.length ≤ 35184372088832) :
    Calls Tryd.prog 11 #[.slice D ds.length cd, .slice A la.length ca, .slice B lb.length cb] w (TwoRow w [] true) := by
  have HD := Lib.hid hd
  have HA := Lib.hid ha
  have HB := Lib.hid hb
  have BA := Lib.hid ba
  have BB := Lib.hid bb
  have HN := Lib.hid h
  have ho0 : Hid (((w.alloc (.cells #[] 5)).drew).ownsRow w.heap.size 5 1 (.slice (some ⟨w.heap.size, 0, none⟩) 0 0) ([] : List Int).length (nums .u8 [])) := own_lit w w.heap.size 5 .u8 [] (Nat.le_refl _) (by decide)
  have hnil : ∀ (wx : World) (a : Option Addr) (n c : Nat), (binOp .eql 22 (.slice a n c) (.slice none 0 0)).run Tryd.prog wx = .ok (.bool a.isNone) wx := fun wx a n c => Lib.run_eql_slice_nil wx 22 5 a n c 0 0 Tryd.underlying22
  clear hd ha hb ba bb h
  go_enter Tryd.func11, Tryd.ntmps11
  go_wp2
  go_region_held3 (fun _ => True) (trivial)
    (first
      | (refine append_row_step w.heap.size rfl (.tmp 10) (.tmp 11) 22 5 rfl Tryd.underlying22 info_u8 _ [] ds _ _ _ rfl rfl ho0.out (Kd.C_alloc HD.out _) ((below_alloc (Below.refl _ _) _).drew) (by simp) (by simp; omega) ?_; intro v1 w1 ho1 hb1 _ _)
      | (go_at_call 26; refine (sep_none (Kd.C_below HA.out hb1) (Kd.C_below HB.out hb1) hca BA.out BB.out HN.out).mono ?_; rintro e w2 ⟨rfl, hb2⟩))
  have HB2 : Hid (Below w.heap.size w w2) := hb1.trans (hb2.mono hb1.size)
  clear hb1 ho1 hb2
  have ho3 : Hid ((w2.alloc (.cells #[] 5)).ownsRow w2.heap.size 5 1 (.slice (some ⟨w2.heap.size, 0, none⟩) 0 0) ([] : List Int).length (nums .u8 [])) := own_lit w2 w2.heap.size 5 .u8 [] (Nat.le_refl _) (by decide)
  go_wp2_with (at_builtin; go_loud (refine print_append_row w2.heap.size rfl (.tmp 16) (.tmp 17) 22 5 .u8 1 rfl Tryd.underlying22 info_u8 (by decide) _ [] [] _ _ _ rfl rfl ho3.out (C_ints (Kd.C_nil _ _)) (below_alloc (Below.refl _ _) _) (by simp) (by simp) ?_); intro v3 w3 ho3' hb3 _ _; have HO3 := Lib.hid ho3'; have HB3 := Lib.hid hb3; clear ho3' hb3)
  obtain ⟨A3, c3, rfl, hr3, hc3⟩ := own_C HO3.out
  go_ret2
  exact ⟨A3, c3, rfl, hr3, hc3, below_then HB2.out HB2.out.size HB3.out⟩

end Go.Proofs.YtpdibidfjhjoeaaDoor.Sep
