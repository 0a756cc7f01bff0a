/- Small words of this seat: rows of bytes, cells, cuts. -/
import Derived.Test.YtddjenmengipkaaProg
import Derived.Test.YtddjenmengipkaaBtPure
import Derived.WalkKit
import Derived.WalkSpells
import Derived.WalkLawsBesides
import Derived.KernelRfl
import Derived.Deep.QuietTactic
import Derived.Deep.RegionHeld3
import Derived.BigQuiet
import Derived.Handy
import Derived.Lib.Hide
import Derived.Lib.QuietBelow
import Derived.Lib.SliceRun
import Derived.LoopTactic
import Derived.Deep.DeepCutAuto
import Derived.StillTailTactics
import Derived.Deep.RegionLaw
namespace Go.Proofs.Ytddjenmengipkaa.Bt
open Go.RowKit Go.Proofs.YtddjenmengipkaaW.PrintWords Go.Proofs.YtddjenmengipkaaW.PrintMore Go.Proofs.Ytddjenmengipkaa.Cmp
set_option linter.unusedVariables false

theorem ret_int {k : IntKind} {a b : Int} (h : a = b) : Ending.returned (.int k a) = .returned (.int k b) := by rw [h]
theorem ret_v {a b : Value} (h : a = b) : Ending.returned a = .returned b := by rw [h]
theorem add_zero (a : Addr) : a.add 0 = a := by simp [Addr.add]
theorem info_u8 : (Try.prog.info? 5).map (fun i => (i.zero, i.size, i.bytes)) = some (some (.int .u8 0), 1, 1) := by kernel_rfl
theorem C_ints {w : World} {k : IntKind} {A : Option Addr} {n : Nat} {l : List Int} (h : Kd.C (Kd.int k) w A n l) : ReadsInt w k A n l := Kd.reads_of_C (d := (0 : Int)) h
theorem ints_C {w : World} {k : IntKind} {A : Option Addr} {n : Nat} {l : List Int} (h : ReadsInt w k A n l) : Kd.C (Kd.int k) w A n l := Kd.C_of_reads (d := (0 : Int)) (h1 := fun _ => rfl) h
theorem byt_drop {l : List Int} (h : Byt l) (m : Nat) : Byt (l.drop m) := fun x hx => h x (List.mem_of_mem_drop hx)
theorem byt_wf {l : List Int} (h : ∀ x ∈ l, (Lit.int .u8 x).wf = true) : Byt l := fun x hx => by
  have := h x hx
  simp [Lit.wf, IntKind.min, IntKind.max, IntKind.bits, IntKind.signed] at this
  omega

/-- the cells of a slice that is not empty -/
theorem cells_of {w : World} {k : IntKind} {A : Option Addr} {n : Nat} {l : List Int} (h : Kd.C (Kd.int k) w A n l) (hn : 0 < n) : ∃ g o, A = some ⟨g, o, none⟩ ∧ ∀ j, j < n → w.cell? ⟨g, o + j, none⟩ = some (.int k (l.getD j 0)) := by
  obtain ⟨h1, h2, h3⟩ := C_ints h
  obtain ⟨⟨g, o, sp⟩, rfl, hc⟩ := h3 hn
  have h0 := hc 0 hn
  rw [add_zero] at h0
  have hs : sp = none := by
    cases sp with
    | none => rfl
    | some q =>
      unfold World.cell? at h0
      split at h0 <;> simp at h0
  subst hs
  refine ⟨g, o, rfl, fun j hj => ?_⟩
  have := hc j hj
  rcases Nat.eq_zero_or_pos j with e | e
  · subst e; simpa [add_zero] using this
  · have e2 : (⟨g, o, none⟩ : Addr).add j = ⟨g, o + j, none⟩ := by unfold Addr.add; rw [if_neg (by omega)]
    rwa [e2] at this

theorem C_some {w : World} {k : IntKind} {A : Option Addr} {n : Nat} {l : List Int} (h : Kd.C (Kd.int k) w A n l) (hn : 0 < n) : ∃ a, A = some a := by
  obtain ⟨_, _, r3⟩ := C_ints h
  obtain ⟨a, ha, _⟩ := r3 hn
  exact ⟨a, ha⟩

/-- a cut 'xs[m:]' of bytes -/
theorem cut_of {T : Nat} (hT : Try.prog.underlying T = some (.slice 5)) {X : Option Addr} {n c m : Nat} (hm : m ≤ n) : ∃ A' : Option Addr, (∀ W : World, (Instr.slice T (.slice X n c) (some (.int .i64 (m : Int))) none none).run Try.prog W = .ok (.slice A' (n - m) (c - m)) W) ∧
    ∀ (w : World) (xs : List Int), n ≤ c → Kd.C (Kd.int .u8) w X n xs → Kd.C (Kd.int .u8) w A' (n - m) (xs.drop m) := by
  obtain ⟨i0, hi, hzz⟩ := Option.map_eq_some_iff.1 info_u8
  simp only [Prod.mk.injEq] at hzz
  obtain ⟨A', h1, h2⟩ := print_cut (P := Try.prog) T 5 .i64 hT hi hzz.2.1 X n c m hm
  exact ⟨A', h1, fun w xs hc hx => ints_C (h2 w .u8 xs hc (C_ints hx))⟩

theorem cell_any (w : World) (C : Array Value) (t : TypeId) (i : Nat) : (w.alloc (.cells C t)).cell? ⟨w.heap.size, i, none⟩ = C[i]? := by
  have h : (w.alloc (.cells C t)).heap[w.heap.size]? = some (.cells C t (0, 0)) := blk_new w _
  exact blk_cell h i

theorem results_tmp4 {fn : Func} {t u v x : Tmp} (h : fn.results = #[.tmp t, .tmp u, .tmp v, .tmp x]) (tmps : Array Value) (P : Program) (w : World) :
    (results fn tmps).run P w = .ok (.tuple #[tmps.getD t undef, tmps.getD u undef, tmps.getD v undef, tmps.getD x undef]) w := by
  simp [results, h]

theorem drop_at (l : List Int) (i : Nat) (h : i < l.length) : l.drop i = l.getD i 0 :: l.drop (i + 1) := by
  rw [List.drop_eq_getElem_cons h]
  simp [List.getD_eq_getElem?_getD, h]

theorem own_C {w : World} {base : Nat} {e : TypeId} {v : Value} {l : List Int} (h : w.ownsRow base e 1 v l.length (nums .u8 l)) : ∃ A c, v = .slice A l.length c ∧ Kd.C (Kd.int .u8) w A l.length l ∧ l.length ≤ c := by
  obtain ⟨A, c, hv, hr⟩ := own_reads h
  refine ⟨A, c, hv, ints_C hr, ?_⟩
  rcases h.2 with ⟨h1, h2⟩ | ⟨g, cap, cur, h1, _, _, h2, _⟩
  · omega
  · rw [hv] at h1; injection h1 with _ _ h3; omega

/-- A region whose operations but the last ones only read: one walk, in the text's order; W is the world that has been drawn from. -/
theorem still_tail {P : Program} {id : Nat} {Q : Exit → Act → World → Prop} {a : Act} {w : World} {l : List Oper} (n : Nat) (hm : P.follows .mixedOrders = true) (hB : Region.lexTailB .any l.toArray n = true)
    (h : ∀ W, W = w.drew → wpStill P l.toArray W (fun a' => wpList P l.toArray Q (l.drop n) a' W) (l.take n) a) : (Code.region id l.toArray true).wp P Q a w :=
  wp_region_still_tail n hm hB (h _ rfl)

end Go.Proofs.Ytddjenmengipkaa.Bt
