/- Eight bytes, the lowest first: what the library's LittleEndian stores and reads. -/
import Derived.Test.YtpdibidfjhjoeaaDoorCon
import Derived.Lib.EndianBits
import Derived.Laws.CopyOwn
namespace Go.Proofs.YtpdibidfjhjoeaaDoor.Le
open Go.RowKit Go.Proofs.YtpdibidfjhjoeaaDoorW.PrintWords Go.Proofs.YtpdibidfjhjoeaaDoor.Cmp Go.Proofs.YtpdibidfjhjoeaaDoor.Run Go.Proofs.YtpdibidfjhjoeaaDoor.Con
set_option linter.unusedVariables false

/-- the eight bytes of a number -/
def leB (v : Int) : List Int := [v % 256, v / 256 % 256, v / 65536 % 256, v / 16777216 % 256, v / 4294967296 % 256, v / 1099511627776 % 256, v / 281474976710656 % 256, v / 72057594037927936 % 256]
/-- the number of eight bytes -/
def leN (l : List Int) : Int := l.getD 0 0 + l.getD 1 0 * 256 + l.getD 2 0 * 65536 + l.getD 3 0 * 16777216 + l.getD 4 0 * 4294967296 + l.getD 5 0 * 1099511627776 + l.getD 6 0 * 281474976710656 + l.getD 7 0 * 72057594037927936

theorem leB_len (v : Int) : (leB v).length = 8 := rfl
theorem leB_byt (v : Int) : Byt (leB v) := by
  intro x hx
  simp only [leB, List.mem_cons, List.not_mem_nil, or_false] at hx
  rcases hx with h | h | h | h | h | h | h | h <;> subst h <;> omega
theorem leN_leB (v : Int) (h0 : 0 ≤ v) (h1 : v < 18446744073709551616) : leN (leB v) = v := by
  simp only [leN, leB, List.getD_cons_zero, List.getD_cons_succ]
  omega

/-- eight cells of a slice of eight bytes -/
theorem eight {w : World} {A : Option Addr} {l : List Int} (h : Kd.C (Kd.int .u8) w A 8 l) : ∃ g o, A = some ⟨g, o, none⟩ ∧ ∀ j, j < 8 → w.cell? ⟨g, o + j, none⟩ = some (.int .u8 (l.getD j 0)) := by
  obtain ⟨h1, h2, h3⟩ := Kd.reads_of_C (d := (0 : Int)) h
  obtain ⟨⟨g, o, sp⟩, rfl, hc⟩ := h3 (by omega)
  have h0 := hc 0 (by omega)
  rw [add_zero] at h0
  have hs : sp = none := by
    cases sp with
    | none => rfl
    | some q =>
      unfold World.cell? at h0
      split at h0 <;> simp at h0
  subst hs
  refine ⟨g, o, rfl, fun j hj => ?_⟩
  have := hc j hj
  rcases Nat.eq_zero_or_pos j with e | e
  · subst e; simpa [add_zero] using this
  · have e2 : (⟨g, o, none⟩ : Addr).add j = ⟨g, o + j, none⟩ := by unfold Addr.add; rw [if_neg (by omega)]
    rwa [e2] at this

set_option maxHeartbeats 1600000 in
set_option maxRecDepth 100000 in
theorem Uint64_calls {w : World} {A : Option Addr} {c : Nat} {l : List Int} (h : Kd.C (Kd.int .u8) w A 8 l) (hb : Byt l) :
    Calls Tryd.prog 47 #[.agg #[], .slice A 8 c] w fun e w' => e = .returned (.int .u64 (leN l)) ∧ Below w.heap.size w w' := by
  have hl := Kd.C_len h
  obtain ⟨g, o, rfl, hc⟩ := eight (Kd.C_alloc h (.cells #[] 77))
  have g0 : ∀ j, j < 8 → 0 ≤ l.getD j 0 ∧ l.getD j 0 ≤ 255 := fun j hj => hb _ (by rw [List.getD_eq_getElem?_getD, List.getElem?_eq_getElem (by omega)]; exact List.getElem_mem _)
  have hn : Hid (leN l = l.getD 0 0 + l.getD 1 0 * 256 + l.getD 2 0 * 65536 + l.getD 3 0 * 16777216 + l.getD 4 0 * 4294967296 + l.getD 5 0 * 1099511627776 + l.getD 6 0 * 281474976710656 + l.getD 7 0 * 72057594037927936) := rfl
  have c0 := hc 0 (by omega)
  have c1 := hc 1 (by omega)
  have c2 := hc 2 (by omega)
  have c3 := hc 3 (by omega)
  have c4 := hc 4 (by omega)
  have c5 := hc 5 (by omega)
  have c6 := hc 6 (by omega)
  have c7 := hc 7 (by omega)
  obtain ⟨b0a, b0b⟩ := g0 0 (by omega)
  obtain ⟨b1a, b1b⟩ := g0 1 (by omega)
  obtain ⟨b2a, b2b⟩ := g0 2 (by omega)
  obtain ⟨b3a, b3b⟩ := g0 3 (by omega)
  obtain ⟨b4a, b4b⟩ := g0 4 (by omega)
  obtain ⟨b5a, b5b⟩ := g0 5 (by omega)
  obtain ⟨b6a, b6b⟩ := g0 6 (by omega)
  obtain ⟨b7a, b7b⟩ := g0 7 (by omega)
  clear hc g0 h hb
  rw [Nat.add_zero] at c0
  generalize l.getD 0 0 = b0 at *
  generalize l.getD 1 0 = b1 at *
  generalize l.getD 2 0 = b2 at *
  generalize l.getD 3 0 = b3 at *
  generalize l.getD 4 0 = b4 at *
  generalize l.getD 5 0 = b5 at *
  generalize l.getD 6 0 = b6 at *
  generalize l.getD 7 0 = b7 at *
  clear hl
  go_enter Tryd.func47, Tryd.ntmps47
  go_wp2
  go_quiet (fail)
  go_wp2
  go_ret
  refine ⟨ret_int ?_, (below_alloc (Below.refl _ _) _).trans ⟨rfl, rfl, rfl, Nat.le_refl _, fun _ _ => rfl⟩⟩
  simp (disch := omega) only [u64_wrap_id, u64_or8, u64_or16, u64_or24, u64_or32, u64_or40, u64_or48, u64_or56]
  exact hn.out.symm

end Go.Proofs.YtpdibidfjhjoeaaDoor.Le
