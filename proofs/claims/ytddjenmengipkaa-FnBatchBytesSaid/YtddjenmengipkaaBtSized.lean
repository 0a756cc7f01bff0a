/- The reference's readers of numbers and of sized bytes, of bytes that came in. -/
import Derived.Test.YtddjenmengipkaaBtRead
import Derived.OwnWalk
namespace Go.Proofs.Ytddjenmengipkaa.Bt
open Go.RowKit Go.Proofs.YtddjenmengipkaaW.PrintWords Go.Proofs.YtddjenmengipkaaW.PrintMore Go.Proofs.Ytddjenmengipkaa.PFnBatchLoads Go.Proofs.Ytddjenmengipkaa.Cmp
set_option linter.unusedVariables false

/-- bytes that lie in a slice -/
def Cut (w : World) (v : Value) (l : List Int) : Prop := ∃ A c, v = .slice A l.length c ∧ Kd.C (Kd.int .u8) w A l.length l ∧ l.length ≤ c

theorem Cut.below {w w' : World} {v : Value} {l : List Int} (h : Cut w v l) (hb : Below w.heap.size w w') : Cut w' v l := by
  obtain ⟨A, c, h1, h2, h3⟩ := h
  exact ⟨A, c, h1, Kd.C_below h2 hb, h3⟩

theorem take_of (A : Option Addr) (c : Nat) (xs : List Int) (kl : IntKind) (j : Int) (h0 : 0 ≤ j) (hm : j ≤ xs.length) (hc : xs.length ≤ c) :
    ∃ v, (∀ W : World, (Instr.slice 22 (.slice A xs.length c) none (some (.int kl j)) none).run Try.prog W = .ok v W) ∧ ∀ w : World, Kd.C (Kd.int .u8) w A xs.length xs → Cut w v (xs.take j.toNat) := by
  obtain ⟨i0, hi, hzz⟩ := Option.map_eq_some_iff.1 info_u8
  simp only [Prod.mk.injEq] at hzz
  obtain ⟨h1, h2, h3⟩ := print_take_of (P := Try.prog) (Value.int .u8) (0 : Int) 22 5 kl (by kernel_rfl) hi hzz.2.1 A c xs j h0 hm hc
  exact ⟨_, h1, fun w h => ⟨A, c, rfl, ints_C (h2 w (C_ints h)), h3⟩⟩

theorem drop_of (A : Option Addr) (c : Nat) (xs : List Int) (kl : IntKind) (j : Int) (h0 : 0 ≤ j) (hm : j ≤ xs.length) (hc : xs.length ≤ c) :
    ∃ v, (∀ W : World, (Instr.slice 22 (.slice A xs.length c) (some (.int kl j)) none none).run Try.prog W = .ok v W) ∧ ∀ w : World, Kd.C (Kd.int .u8) w A xs.length xs → Cut w v (xs.drop j.toNat) := by
  obtain ⟨i0, hi, hzz⟩ := Option.map_eq_some_iff.1 info_u8
  simp only [Prod.mk.injEq] at hzz
  obtain ⟨A', h1, h2, h3⟩ := print_drop_of (P := Try.prog) (Value.int .u8) (0 : Int) 22 5 kl (by kernel_rfl) hi hzz.2.1 A c xs j h0 hm hc
  exact ⟨_, h1, fun w h => ⟨A', _, rfl, ints_C (h2 w (C_ints h)), h3⟩⟩

/-- a number, what is left, and whether there was one -/
def UvTold (w0 w : World) (l : List Int) (r : Option (Int × Nat)) (e : Ending) (w' : World) : Prop := Below w.heap.size w w' ∧ match r with
  | none => e = .returned (.tuple #[.int .u64 0, .slice none 0 0, .bool false])
  | some r => ∃ v, e = .returned (.tuple #[.int .u64 r.1, v, .bool true]) ∧ Cut w0 v (l.drop r.2)

set_option maxHeartbeats 800000 in
set_option maxRecDepth 100000 in
theorem UvarOf_calls {w0 w : World} {A : Option Addr} {c : Nat} {l : List Int} (h : Kd.C (Kd.int .u8) w0 A l.length l) (h0 : Below w0.heap.size w0 w) (hc : l.length ≤ c) (hb : Byt l) (hl : l.length ≤ 4294967296) (hf : farI 0 l = false) :
    Calls Try.prog 29 #[.slice A l.length c] w (UvTold w0 w l (uvI l)) := by
  have HA := Lib.hid h
  have H0 := Lib.hid h0
  have HB := Lib.hid hb
  have hr : Hid (uvAt 0 0 l = uvI l) := uvAt_zero l
  have hf0 : Hid (farI 0 (l.drop 0) = false) := hf
  generalize uvI l = R at *
  clear h h0 hb hf
  generalize hn : l.length = n at *
  have HN := Lib.hid hn
  clear hn
  go_enter Try.func29, Try.ntmps29
  go_wp2
  go_loopw [5, 6] (fun v5 v6 wr => ∃ (x : Int) (i : Nat), v5 = .int .u64 x ∧ v6 = .int .i64 (i : Int) ∧ 0 ≤ x ∧ Hid (x < 2 ^ (7 * i)) ∧ i ≤ n ∧ i ≤ 8 ∧ Hid (farI i (l.drop i) = false) ∧ Hid (uvAt x i l = R) ∧ Hid (Below w.heap.size w wr)) (fun _ v6 _ => n - (intOf v6).toNat)
  case atStart => exact ⟨0, 0, rfl, rfl, by omega, (by decide : (0 : Int) < 2 ^ (7 * 0)), by omega, by omega, hf0, hr, Below.refl _ _⟩
  case round =>
    obtain ⟨x, i, rfl, rfl, x0, x1, hi, h8, HF, HX, HR⟩ := hrel
    clear hr hf0
    by_cases hk : (i : Int) < (n : Int)
    · have hin : i < n := by omega
      obtain ⟨ad, rfl, hcell⟩ := (C_ints (Kd.C_below (Kd.C_below HA.out H0.out) HR.out)).2.2 (by omega)
      have k0 := hcell i hin
      have hby := HB.out (l.getD i 0) (getD_mem l i (by rw [HN.out]; exact hin))
      have HF2 := HF.out
      rw [far_step i l i (by rw [HN.out]; exact hin)] at HF2
      have hx9 : ¬ ((i : Int) = 9) := by omega
      clear hcell HF
      have er : l.getD i 0 = rd l (i : Int) := rfl
      by_cases hy : l.getD i 0 < 128
      · have hu := uvAt_last x i l (by rw [HN.out]; exact hin) (by rw [← er]; exact hy)
        rw [HX.out, ← er] at hu
        have ho := or_pow x (l.getD i 0) i h8 x0 x1.out hby.1 hy
        have HU := Lib.hid hu
        clear HX HF2 er hu
        generalize l.getD i 0 = y at *
        have em : y % 128 = y := by omega
        have ew : IntKind.u64.wrap (y * 2 ^ (7 * i)) = y * 2 ^ (7 * i) := u64_wrap_id _ ho.2.2.1 ho.2.2.2
        have eo : Go.bits .or .u64 x (y * 2 ^ (7 * i)) = x + y * 2 ^ (7 * i) := ho.1
        have HO := Lib.hid ho
        clear ho
        obtain ⟨vc, c1, c2⟩ := drop_of (some ad) c l .i64 ((i + 1 : Nat) : Int) (by omega) (by rw [HN.out]; omega) (by rw [HN.out]; exact hc)
        rw [HN.out] at c1 c2
        rw [Int.toNat_natCast] at c2
        go_wp2
        have e1 : (i : Int) + 1 = ((i + 1 : Nat) : Int) := by omega
        have e2 : wrap64 ((i : Int) + 1) = ((i + 1 : Nat) : Int) := by unfold wrap64; omega
        have e3 : IntKind.i64.wrap ((i : Int) + 1) = ((i + 1 : Nat) : Int) := by rw [IntKind.wrap_i64]; omega
        clear em ew eo
        generalize x + y * 2 ^ (7 * i) = z at *
        have hc1 : i + 1 ≤ n := by omega
        generalize hm : i + 1 = m at *
        have HM := Lib.hid hm
        clear hm e1
        go_quiet (fail)
        rename_i nq
        go_wp2
        go_ret3
        have hz := HU.out
        subst hz
        have hb2 : Below w.heap.size w (wr.drewN nq) := pw_below_drewN HR.out nq
        exact ⟨hb2, vc, rfl, c2 _ HA.out⟩
      · rw [if_neg hy] at HF2
        by_cases h9 : 9 ≤ i + 1
        · rw [if_pos h9] at HF2; cases HF2
        rw [if_neg h9] at HF2
        have HF3 := Lib.hid HF2
        have hu := uvAt_step x i l (by rw [HN.out]; exact hin) (by rw [← er]; exact hy)
        rw [HX.out, ← er] at hu
        have ho := or_pow x (l.getD i 0 - 128) i h8 x0 x1.out (by omega) (by omega)
        have HU := Lib.hid hu
        clear HX HF2 er hu
        generalize l.getD i 0 = y at *
        have em : y % 128 = y - 128 := by omega
        have ew : IntKind.u64.wrap ((y - 128) * 2 ^ (7 * i)) = (y - 128) * 2 ^ (7 * i) := u64_wrap_id _ ho.2.2.1 ho.2.2.2
        have eo : Go.bits .or .u64 x ((y - 128) * 2 ^ (7 * i)) = x + (y - 128) * 2 ^ (7 * i) := ho.1
        have HO := Lib.hid ho
        clear ho
        go_wp2
        refine ⟨⟨x + (y - 128) * 2 ^ (7 * i), i + 1, rfl, by simp, by have := HO.out.2.2.1; omega, HO.out.2.1, by omega, by omega, HF3, HU.out.symm, HR⟩, ?_⟩
        simp [intOf]; omega
    · have hx := HX.out
      rw [uvAt_end x i l (by rw [HN.out]; omega)] at hx
      subst hx
      go_wp2
      go_ret3
      exact ⟨HR.out, rfl⟩


/-- sized bytes, and what is left -/
def szI (l : List Int) : Option (List Int × List Int) := match uvI l with
  | none => none
  | some r => if ((l.length - r.2 : Nat) : Int) < r.1 then none else some ((l.drop r.2).take r.1.toNat, l.drop (r.2 + r.1.toNat))

def SzTold (w0 w : World) (r : Option (List Int × List Int)) (e : Ending) (w' : World) : Prop := Below w.heap.size w w' ∧ match r with
  | none => e = .returned (.tuple #[.slice none 0 0, .slice none 0 0, .bool false])
  | some r => ∃ v u, e = .returned (.tuple #[v, u, .bool true]) ∧ Cut w0 v r.1 ∧ Cut w0 u r.2

set_option maxHeartbeats 800000 in
set_option maxRecDepth 100000 in
theorem SizedOf_calls {w0 w : World} {A : Option Addr} {c : Nat} {l : List Int} (h : Kd.C (Kd.int .u8) w0 A l.length l) (h0 : Below w0.heap.size w0 w) (hc : l.length ≤ c) (hb : Byt l) (hl : l.length ≤ 4294967296) (hf : farI 0 l = false) :
    Calls Try.prog 15 #[.slice A l.length c] w (SzTold w0 w (szI l)) := by
  have HC := Lib.hid (UvarOf_calls h h0 hc hb hl hf)
  have HB := Lib.hid hb
  have HA := Lib.hid h
  clear h h0 hb hf
  generalize hh : szI l = R
  unfold szI at hh
  cases hu : uvI l with
  | none =>
    rw [hu] at hh HC
    simp only at hh
    subst hh
    clear hu
    generalize hn : l.length = n at *
    have HN := Lib.hid hn
    clear hn
    go_enter Try.func15, Try.ntmps15
    go_wp2_with (go_at_call 29; refine HC.out.mono ?_; rintro e w1 ⟨hb1, rfl⟩)
    go_ret3
    exact ⟨hb1, rfl⟩
  | some r =>
    rw [hu] at hh HC
    simp only at hh
    obtain ⟨x, m⟩ := r
    obtain ⟨f1, f2, f3, f4⟩ := uv_facts l x m HB.out hu
    clear hu
    rw [← List.length_drop] at hh
    rw [← List.drop_drop] at hh
    have HD : Hid (l.drop m = l.drop m ∧ (l.drop m).length ≤ l.length) := ⟨rfl, by simp⟩
    replace HC : Hid (Calls Try.prog 29 #[.slice A l.length c] w fun e w' => Below w.heap.size w w' ∧ ∃ v, e = .returned (.tuple #[.int .u64 x, v, .bool true]) ∧ Cut w0 v (l.drop m)) := HC
    generalize l.drop m = d at *
    have hd : d.length ≤ l.length := HD.out.2
    clear HD
    by_cases hx : (d.length : Int) < x
    · rw [if_pos hx] at hh
      subst hh
      generalize hn : l.length = n at *
      have HN := Lib.hid hn
      clear hn
      generalize hdl : d.length = dl at *
      have HDL := Lib.hid hdl
      clear hdl
      go_enter Try.func15, Try.ntmps15
      go_wp2_with (go_at_call 29; refine HC.out.mono ?_; rintro e w1 ⟨hb1, v, rfl, A1, c1, rfl, hk1, hc1⟩; rw [HDL.out])
      go_ret3
      exact ⟨hb1, rfl⟩
    · rw [if_neg hx] at hh
      subst hh
      have hx2 : x ≤ (d.length : Int) := by omega
      generalize hn : l.length = n at *
      have HN := Lib.hid hn
      clear hn
      have HX := Lib.hid hx2
      generalize hdl : d.length = dl at *
      have HDL := Lib.hid hdl
      clear hdl
      go_enter Try.func15, Try.ntmps15
      go_wp2_with (go_at_call 29; refine HC.out.mono ?_; rintro e w1 ⟨hb1, v, rfl, A1, c1, rfl, hk1, hc1⟩; obtain ⟨v1, t1, t2⟩ := take_of A1 c1 d .u64 x f3 (by rw [HDL.out]; exact HX.out) hc1; obtain ⟨v2, t3, t4⟩ := drop_of A1 c1 d .u64 x f3 (by rw [HDL.out]; exact HX.out) hc1; rw [HDL.out] at t1 t2 t3 t4 hk1 hc1; rw [HDL.out])
      go_quiet (fail)
      rename_i nq
      go_wp2
      go_ret3
      exact ⟨pw_below_drewN hb1 nq, v1, v2, rfl, t2 _ hk1, t4 _ hk1⟩

end Go.Proofs.Ytddjenmengipkaa.Bt
