/- The laws' walkAwake: its fixed call answers. The law FnArrayWalk, walked: it answers true, whatever the input. Arguments opened: what a value that reads as data says in the words of Kd (kinds of values), type by type. The walks' arguments, read as data; FnArrayWalk's walk out of them. The memory table as a sorted list: what reads it. The memory table: Reset. The laws' own bounds: fewOps. -/
import Derived.Test.YtdkkkikcigjlhaaGreatDoorMm12
import Derived.Test.YtdkkkikcigjlhaaGreatDoorMm13
import Derived.Test.YtdkkkikcigjlhaaGreatDoorMm14
import Derived.Lib.SlBytesConst
import Derived.Test.YtdkkkikcigjlhaaGreatDoorWMore
import Derived.Deep.Slices
import Derived.WalkKit
import Derived.Below
import Derived.Test.YtdkkkikcigjlhaaGreatDoorMm05
import Derived.Test.YtdkkkikcigjlhaaGreatDoorMm07
set_option linter.unusedVariables false
set_option linter.unusedSimpArgs false
namespace Go.Proofs.YtdkkkikcigjlhaaGreatDoor.Md
open Go.RowKit Go.Proofs.YtdkkkikcigjlhaaGreatDoor.Con Go.Proofs.YtdkkkikcigjlhaaGreatDoor.Run Go.Proofs.YtdkkkikcigjlhaaGreatDoorW.PrintWords Go.Proofs.YtdkkkikcigjlhaaGreatDoorW.PrintMore Go.Proofs.YtdkkkikcigjlhaaGreatDoor.Cmp Go.Sort Go.RwLone Go.Proofs.YtdkkkikcigjlhaaGreatDoor.PFnMemMap

theorem cmpr_ord {o : Int} (h : o = 0 ∨ o = 1 ∨ o = 2) : Cmpr (ordV o) (cmpO o) := by
  rcases h with rfl | rfl | rfl
  · exact cmpr_bytes
  · exact cmpr_falling
  · exact cmpr_shorter

theorem lit_rises : risesL (cmpO 0) (kvS litL) = true := by decide
theorem lit_range : ((putsL (cmpO 0) litL).filter fun x => over (cmpO 0) (optL false []) x.1 && under (cmpO 0) (optL false []) x.1) = kvC (asC litL) := by decide

abbrev mvA : List S104 := [⟨1, []⟩, ⟨3, []⟩]
abbrev mvB : List S104 := [⟨2, []⟩]
abbrev litA (W : World) : World := W.alloc (.cells #[.int .i64 1, .slice none 0 0, .int .i64 3, .slice none 0 0] 104)
abbrev litB (W : World) : World := W.alloc (.cells #[.int .i64 2, .slice none 0 0] 104)

theorem litA_below (W : World) : Below W.heap.size W (litA W) := below_alloc (Below.refl _ _) _
theorem litB_below (W : World) : Below W.heap.size W (litB W) := below_alloc (Below.refl _ _) _
theorem lit_len : ∀ x ∈ litL, x.f0.length ≤ 4294967296 ∧ x.f1.length ≤ 4294967296 := by decide
theorem lit_byt : ∀ x ∈ litL, Byt x.f0 ∧ Byt x.f1 := by
  intro x hx
  simp only [List.mem_cons, List.not_mem_nil, or_false] at hx
  rcases hx with rfl | rfl
  · exact ⟨fun z hz => by simp at hz; omega, fun z hz => by simp at hz; omega⟩
  · exact ⟨fun z hz => by simp at hz; omega, fun z hz => by simp at hz⟩
theorem mvA_byt : ∀ m ∈ mvA, Byt m.f1 := by
  intro x hx
  simp only [List.mem_cons, List.not_mem_nil, or_false] at hx
  rcases hx with rfl | rfl <;> exact fun z hz => by simp at hz
theorem mvB_byt : ∀ m ∈ mvB, Byt m.f1 := by
  intro x hx
  simp only [List.mem_cons, List.not_mem_nil, or_false] at hx
  rcases hx with rfl
  exact fun z hz => by simp at hz
theorem byt_nil : Byt [] := fun z hz => by cases hz

def LitTold (n : Nat) (ms : List S104) (W : World) (b : Bool) (e : Ending) (w' : World) : Prop :=
  ∃ A c, e = .returned (if b then .tuple #[.slice A n c, .bool true] else .slice A n c) ∧ Hid (Kd.F k121 w' (fun k => W.heap.size ≤ k) A n (atsL (cmpO 0) (kvC (asC litL)) (-1) ms)) ∧ Hid (Below W.heap.size W w')

theorem lit_AW {W : World} {ok : Nat → Prop} {a : Addr} (h : Kd.F k44 W ok (some a) 2 litL) :
    Calls Tryz.prog 24 #[.int .i64 0, .slice (some a) 2 2, .slice (some ⟨W.heap.size, 0, none⟩) 2 2] (litA W) fun e w' => LitTold 2 mvA W true e w' := by
  have hb := litA_below W
  have hs : (litA W).heap.size = W.heap.size + 1 := World.size_alloc _ _
  refine (ArrayWalk_calls (o := 0) (f := cmpO 0) (l := litL) (ms := mvA) (A := some a) (c := 2) (cm := 2) (cmpr_ord (.inl rfl)) (Kd.F_below h hb) (by decide) (fun x hx => (lit_byt x hx).1) (by decide) lit_len (mv2_F W 1 3) mvA_byt (fun k hk q => by omega) (by decide)).mono ?_
  rintro e w' ⟨hbl, hres⟩
  rcases hres with ⟨-, v, rfl, hN⟩ | ⟨hr, -⟩
  · obtain ⟨A, c, rfl⟩ := Kd.N_slice hN
    have hl : (atsL (cmpO 0) (kvS litL) (-1) mvA).length = 2 := by rw [atsL_len]; rfl
    rw [hl] at hN ⊢
    exact ⟨A, c, rfl, Lib.hid (Kd.F_mono (Kd.N_F hN) (fun k hk => by rw [hs] at hk; omega)), Lib.hid (hb.trans (hbl.mono hb.size))⟩
  · rw [lit_rises] at hr
    cases hr

theorem lit_MW {W : World} {ok : Nat → Prop} {a : Addr} (h : Kd.F k44 W ok (some a) 2 litL) (hok : ∀ k, ok k → k < W.heap.size) :
    Calls Tryz.prog 33 #[.int .i64 0, .slice (some a) 2 2, .agg #[.bool false, .bool false, .slice none 0 0, .slice none 0 0], .slice (some ⟨W.heap.size, 0, none⟩) 1 1] (litB W) fun e w' => LitTold 1 mvB W false e w' := by
  have hb := litB_below W
  have hs : (litB W).heap.size = W.heap.size + 1 := World.size_alloc _ _
  have hn : Kd.C (Kd.int .u8) (litB W) none ([] : List Int).length [] := Kd.F_now (Kd.F_nil _ _ (fun _ => True))
  refine (MemWalk_calls (o := 0) (f := cmpO 0) (l := litL) (ms := mvB) (A := some a) (c := 2) (cm := 1) (b1 := false) (b2 := false) (st := []) (lim := []) (cs := 0) (cl := 0) (cmpr_ord (.inl rfl)) (Kd.F_below h hb) lit_byt (fun k hk => by have := hok k hk; rw [hs]; omega) (by decide) (by decide) hn hn byt_nil byt_nil (by decide) (by decide) (mv1_F W 2) mvB_byt (fun k hk q => by omega) (by decide) lit_len).mono ?_
  rintro e w' ⟨v, rfl, hN, hbl⟩
  rw [lit_range] at hN
  obtain ⟨A, c, rfl⟩ := Kd.N_slice hN
  have hl : (atsL (cmpO 0) (kvC (asC litL)) (-1) mvB).length = 1 := by rw [atsL_len]; rfl
  rw [hl] at hN ⊢
  exact ⟨A, c, rfl, Lib.hid (Kd.F_mono (Kd.N_F hN) (fun k hk => by rw [hs] at hk; omega)), Lib.hid (hb.trans (hbl.mono hb.size))⟩

def PrLit (ok : Nat → Prop) (W : World) (e : Ending) (w' : World) : Prop := ∃ A c, e = .returned (.slice A 2 c) ∧ 2 ≤ c ∧ Hid (Kd.F k36 w' (fun k => ok k ∨ W.heap.size ≤ k) A 2 (asC litL)) ∧ Hid (Below W.heap.size W w')

theorem lit_pairs {W : World} {ok : Nat → Prop} {a : Addr} (h : Kd.F k44 W ok (some a) 2 litL) :
    Calls Tryz.prog 26 #[.slice (some a) 2 2] W fun e w' => PrLit ok W e w' := by
  refine (pairs_calls (l := litL) (c := 2) h (by decide) (by decide)).mono ?_
  rintro e w' ⟨A, c, rfl, h1, h2, h3⟩
  exact ⟨A, c, rfl, h1, Lib.hid h2, Lib.hid h3⟩

theorem asC_lit_len : ∀ x ∈ asC litL, x.f0.length ≤ 4294967296 := by decide

theorem lit_walkedA {W : World} {ok okg : Nat → Prop} {A Ag : Option Addr} {c cg : Nat} (h : Kd.F k36 W ok A 2 (asC litL)) (hc : 2 ≤ c) (hG : Kd.F k121 W okg Ag 2 (atsL (cmpO 0) (kvC (asC litL)) (-1) mvA)) :
    Calls Tryz.prog 27 #[.int .i64 0, .slice A 2 c, .slice (some ⟨W.heap.size, 0, none⟩) 2 2, .slice Ag 2 cg] (litA W) fun e w' => e = .returned (.bool true) ∧ Hid (Below W.heap.size W w') := by
  have hb := litA_below W
  refine (walked_calls (l := asC litL) (ms := mvA) 0 (Kd.F_below h hb) rfl hc asC_lit_len (by decide) (mv2_F W 1 3) rfl (by decide) (by decide) (Kd.F_below hG hb)).mono ?_
  rintro e w' ⟨rfl, hbl⟩
  exact ⟨rfl, Lib.hid (hb.trans (hbl.mono hb.size))⟩

theorem lit_walkedB {W : World} {ok okg : Nat → Prop} {A Ag : Option Addr} {c cg : Nat} (h : Kd.F k36 W ok A 2 (asC litL)) (hc : 2 ≤ c) (hG : Kd.F k121 W okg Ag 1 (atsL (cmpO 0) (kvC (asC litL)) (-1) mvB)) :
    Calls Tryz.prog 27 #[.int .i64 0, .slice A 2 c, .slice (some ⟨W.heap.size, 0, none⟩) 1 1, .slice Ag 1 cg] (litB W) fun e w' => e = .returned (.bool true) ∧ Hid (Below W.heap.size W w') := by
  have hb := litB_below W
  refine (walked_calls (l := asC litL) (ms := mvB) 0 (Kd.F_below h hb) rfl hc asC_lit_len (by decide) (mv1_F W 2) rfl (by decide) (by decide) (Kd.F_below hG hb)).mono ?_
  rintro e w' ⟨rfl, hbl⟩
  exact ⟨rfl, Lib.hid (hb.trans (hbl.mono hb.size))⟩

set_option maxHeartbeats 6400000 in
set_option maxRecDepth 100000 in
theorem walkAwake_calls {w : World} : Calls Tryz.prog 28 #[] w fun e w' => e = .returned (.bool true) ∧ Below w.heap.size w w' := by
  have kc := fun (w : World) (C : Array Value) (n c : Nat) => Lib.run_convert_bytes_const (P := Tryz.prog) w 25 5 C n c Tryz.underlying25 Tryz.underlying5
  have kc2 := kc (w.alloc (.cells #[.int .u8 97] 5 (1, 2))) #[.int .u8 49] 1 1
  have kc3 := kc ((w.alloc (.cells #[.int .u8 97] 5 (1, 2))).alloc (.cells #[.int .u8 49] 5 (1, 2))) #[.int .u8 98] 1 1
  simp only [World.size_alloc] at kc2 kc3
  have HF0 := Lib.hid (lit_F w)
  have HB0 := Lib.hid (lit_below w).1
  have HS0 := Lib.hid (blk_lt (lit_below w).2.2.2.2)
  go_enter Tryz.func28, Tryz.ntmps28
  go_upto_region 2 with (fail)
  clear kc kc2 kc3
  unfold litW litC at HF0 HB0 HS0
  generalize (((w.alloc (.cells #[.int .u8 97] 5 (1, 2))).alloc (.cells #[.int .u8 49] 5 (1, 2))).alloc (.cells #[.int .u8 98] 5 (1, 2))).alloc (.cells #[.slice (some ⟨w.heap.size, 0, none⟩) 1 1, .slice (some ⟨w.heap.size + 1, 0, none⟩) 1 1, .slice (some ⟨w.heap.size + 1 + 1, 0, none⟩) 1 1, .slice none 0 0] 44) = w1 at *
  go_wp2_with (first
    | (go_at_call 24; (with_reducible refine (lit_AW HF0.out).mono ?_); rintro e w2 ⟨A2, c2, rfl, g2, b2⟩; have HF2 := Lib.hid (Kd.F_below HF0.out b2.out); have HB2 := Lib.hid (HB0.out.trans (b2.out.mono HB0.out.size)); simp only [if_true])
    | (go_at_call 33; (with_reducible refine (lit_MW HF2.out (fun k hk => Nat.lt_of_lt_of_le hk.2 b2.out.size)).mono ?_); rintro e w3 ⟨A3, c3, rfl, g3, b3⟩; have HF3 := Lib.hid (Kd.F_below HF2.out b3.out); have HB3 := Lib.hid (HB2.out.trans (b3.out.mono HB2.out.size)); simp only [Bool.false_eq_true, if_false])
    | (go_at_call 26; (with_reducible refine (lit_pairs HF3.out).mono ?_); rintro e w4 ⟨A4, c4, rfl, hc4, g4, b4⟩; have HB4 := Lib.hid (HB3.out.trans (b4.out.mono HB3.out.size)); have HF4 := Lib.hid (Kd.F_below HF3.out b4.out); have G2 := Lib.hid (Kd.F_below (Kd.F_below g2.out b3.out) b4.out))
    | (go_at_call 27; (with_reducible refine (lit_walkedA g4.out hc4 G2.out).mono ?_); rintro e w5 ⟨rfl, b5⟩; have HB5 := Lib.hid (HB4.out.trans (b5.out.mono HB4.out.size)); have HF5 := Lib.hid (Kd.F_below HF4.out b5.out))
    | (go_at_call 26; (with_reducible refine (lit_pairs HF5.out).mono ?_); rintro e w6 ⟨A6, c6, rfl, hc6, g6, b6⟩; have HB6 := Lib.hid (HB5.out.trans (b6.out.mono HB5.out.size)); have G3 := Lib.hid (Kd.F_below (Kd.F_below (Kd.F_below g3.out b4.out) b5.out) b6.out))
    | (go_at_call 27; (with_reducible refine (lit_walkedB g6.out hc6 G3.out).mono ?_); rintro e w7 ⟨rfl, b7⟩; have HB7 := Lib.hid (HB6.out.trans (b7.out.mono HB6.out.size))))
  go_ret
  exact ⟨rfl, HB7.out⟩

theorem ord3 (o0 : Int) : wrap64 ((IntKind.u64.wrap o0).tmod 3) = 0 ∨ wrap64 ((IntKind.u64.wrap o0).tmod 3) = 1 ∨ wrap64 ((IntKind.u64.wrap o0).tmod 3) = 2 := by
  have h : 0 ≤ IntKind.u64.wrap o0 := by
    show 0 ≤ o0 % (2 ^ 64 : Int)
    omega
  rw [Int.tmod_eq_emod_of_nonneg h]
  generalize IntKind.u64.wrap o0 = u at *
  unfold wrap64
  omega

end Go.Proofs.YtdkkkikcigjlhaaGreatDoor.Md

namespace Go.Proofs.YtdkkkikcigjlhaaGreatDoor.Open
open Go.ChangeShapes Go.WideShapes Go.RowKit Go.Proofs.YtdkkkikcigjlhaaGreatDoorW.PrintWords

structure Opens (P : Program) (t : TypeId) {α : Type} (d : Kd α) (ok : α → Prop) : Prop where
  run : ∀ {H : Type} {enc : TypeId × Value → H} {w : World} {base : Nat} {spare : Nat → Bool} {fuel : Nat} {cs : List Value} {x : DataW H × List MemPlace}, DataW.trod enc P w base spare true fuel t cs = some x → ∃ a, d.K w a cs ∧ ok a

section
variable {P : Program} {t e : TypeId} {α β : Type} {d : Kd α} {ok : α → Prop}

theorem opens_int {k : IntKind} (ht : P.underlying t = some (.int k)) : Opens P t (Kd.int k) (fun n => (Lit.int k n).wf = true) := by
  refine ⟨fun hx => ?_⟩
  obtain ⟨n, h1, _, h3⟩ := DataW.trod_int ht hx
  exact ⟨n, h1, h3⟩

theorem opens_slice (ht : P.underlying t = some (.slice e)) (hs : P.cellsOf e = d.sz) (h : Opens P e d ok) : Opens P t (Kd.slice e d) (fun xs => ∀ x ∈ xs, ok x) := by
  refine ⟨fun {H enc w base spare fuel cs x} hx => ?_⟩
  rcases Go.Deep.open_slice ht hx with ⟨rfl, _⟩ | ⟨a, len, cap, m, n, D, Pl, rfl, _, hl, hm, hmm, _, hel⟩
  · exact ⟨[], ⟨none, 0, rfl, Nat.le_refl _, Kd.C_nil _ _⟩, fun x hx => by cases hx⟩
  · have hlm : len ≤ m := by rw [hmm]; split <;> omega
    have one : ∀ i, i < len → ∃ x, ok x ∧ ∃ c, c.length = d.sz ∧ d.K w x c ∧ ∀ j u, c[j]? = some u → w.cell? (a.add (i * d.sz + j)) = some u := fun i hi => by
      obtain ⟨cs', h1, h2⟩ := hel i (by omega)
      obtain ⟨x, h3, h4⟩ := h.run h2
      obtain ⟨_, h5, h6⟩ := World.cells?_some h1
      refine ⟨x, h4, cs', by rw [h5, hs], h3, fun j u hj => ?_⟩
      have hjl : j < P.cellsOf e := by
        rw [← h5]
        exact (List.getElem?_eq_some_iff.1 hj).1
      have := h6 j hjl
      rw [hj, Go.Deep.add_add, hs] at this
      exact this
    have all : ∃ xs : List α, xs.length = len ∧ (∀ x ∈ xs, ok x) ∧ ∀ j p, xs[j]? = some p → ∃ c, c.length = d.sz ∧ d.K w p c ∧ ∀ i u, c[i]? = some u → w.cell? (a.add (j * d.sz + i)) = some u := by
      rcases Nat.eq_zero_or_pos len with z | z
      · exact ⟨[], z.symm, (fun x hx => by cases hx), (fun j p hj => by simp at hj)⟩
      · obtain ⟨x0, _⟩ := one 0 z
        have : Inhabited α := ⟨x0⟩
        obtain ⟨f, hf⟩ := Go.Deep.choose_lt one
        refine ⟨(List.range len).map f, by simp, fun x hx => ?_, fun j p hj => ?_⟩
        · obtain ⟨i, hi, rfl⟩ := List.mem_map.1 hx
          exact (hf i (List.mem_range.1 hi)).1
        · have hjl : j < len := by
            have := (List.getElem?_eq_some_iff.1 hj).1
            simpa using this
          simp [hjl] at hj
          subst hj
          exact (hf j hjl).2
    obtain ⟨xs, hx1, hx2, hx3⟩ := all
    subst hx1
    refine ⟨xs, ⟨some a, cap, rfl, hl, rfl, ?_, fun _ => ⟨a, rfl, hx3⟩⟩, hx2⟩
    have : maxLen = 9223372036854775807 := rfl
    omega

structure OpensFs (P : Program) (fs : List Field) (off : Nat) {α : Type} (d : Kd α) (ok : α → Prop) : Prop where
  run : ∀ {H : Type} {enc : TypeId × Value → H} {w : World} {base : Nat} {spare : Nat → Bool} {fuel : Nat} {cs : List Value}, cs.length = off + d.sz →
    (∀ f, f ∈ fs → ∃ y, DataW.trod enc P w base spare true fuel f.type ((cs.drop f.offset).take (P.cellsOf f.type)) = some y) → ∃ a, d.K w a (cs.drop off) ∧ ok a

theorem opensFs_last {f : Field} {off : Nat} (ho : f.offset = off) (hs : P.cellsOf f.type = d.sz) (h : Opens P f.type d ok) : OpensFs P [f] off d ok := by
  refine ⟨fun {H enc w base spare fuel cs} hl hf => ?_⟩
  obtain ⟨y, hy⟩ := hf f (by simp)
  rw [ho, hs, List.take_of_length_le (by simp; omega)] at hy
  exact h.run hy

theorem opensFs_cons {f : Field} {fs : List Field} {off : Nat} {d' : Kd β} {ok' : β → Prop} (ho : f.offset = off) (hs : P.cellsOf f.type = d.sz) (h : Opens P f.type d ok) (g : OpensFs P fs (off + d.sz) d' ok') :
    OpensFs P (f :: fs) off (Kd.pair d d') (fun x => ok x.1 ∧ ok' x.2) := by
  refine ⟨fun {H enc w base spare fuel cs} hl hf => ?_⟩
  obtain ⟨y, hy⟩ := hf f (by simp)
  rw [ho, hs] at hy
  obtain ⟨a, h1, h2⟩ := h.run hy
  have hsz : (Kd.pair d d').sz = d.sz + d'.sz := rfl
  obtain ⟨b, h3, h4⟩ := g.run (cs := cs) (by omega) (fun f' hf' => hf f' (by simp [hf']))
  refine ⟨(a, b), ⟨(cs.drop off).take d.sz, cs.drop (off + d.sz), ?_, h1, h3⟩, h2, h4⟩
  rw [← List.drop_drop, List.take_append_drop]

theorem opens_struct {fs : Array Field} (ht : P.underlying t = some (.struct fs)) (hc : P.cellsOf t = d.sz) (h : OpensFs P fs.toList 0 d ok) : Opens P t d ok := by
  refine ⟨fun {H enc w base spare fuel cs x} hx => ?_⟩
  obtain ⟨xs, n, _, _, hl, hlen, hf⟩ := DataW.trod_struct ht hx
  have := h.run (cs := cs) (by omega) (fun f hfm => by
    obtain ⟨i, hi⟩ := List.getElem?_of_mem hfm
    have hi' : fs[i]? = some f := by simpa using hi
    have hlt : i < xs.length := by
      rw [hlen]
      exact (Array.getElem?_eq_some_iff.1 hi').1
    exact ⟨xs[i], (hf i f hi').trans (List.getElem?_eq_getElem hlt)⟩)
  simpa using this

theorem opens_iso (h : Opens P t d ok) (f : β → α) (g : α → β) (hfg : ∀ a, f (g a) = a) : Opens P t (Kd.iso d f) (fun b => ok (f b)) := by
  refine ⟨fun hx => ?_⟩
  obtain ⟨a, h1, h2⟩ := h.run hx
  refine ⟨g a, ?_, ?_⟩
  · show d.K _ (f (g a)) _
    rw [hfg]; exact h1
  · show ok (f (g a))
    rw [hfg]; exact h2
end

end Go.Proofs.YtdkkkikcigjlhaaGreatDoor.Open

namespace Go.Proofs.YtdkkkikcigjlhaaGreatDoor.Md
open Go.RowKit Go.Proofs.YtdkkkikcigjlhaaGreatDoor.Open Go.Proofs.YtdkkkikcigjlhaaGreatDoorW.PrintWords Go.Proofs.YtdkkkikcigjlhaaGreatDoor.Cmp Go.Proofs.YtdkkkikcigjlhaaGreatDoor.PFnMemMap

theorem r_byt {l : List Int} (h : ∀ x ∈ l, (Lit.int .u8 x).wf = true) : Byt l := fun x hx => by
  have := h x hx
  simp [Lit.wf, IntKind.min, IntKind.max, IntKind.bits, IntKind.signed] at this
  omega

theorem bytes_opens : Opens Tryz.prog 25 (Kd.slice 5 (Kd.int .u8)) (fun l => ∀ z ∈ l, (Lit.int .u8 z).wf = true) := opens_slice Tryz.underlying25 (by kernel_rfl) (opens_int Tryz.underlying5)

abbrev U8ok (l : List Int) : Prop := ∀ z ∈ l, (Lit.int .u8 z).wf = true

end Go.Proofs.YtdkkkikcigjlhaaGreatDoor.Md

namespace Go.Proofs.YtdkkkikcigjlhaaGreatDoor.Md
open Go.RowKit Go.Proofs.YtdkkkikcigjlhaaGreatDoor.Con Go.Proofs.YtdkkkikcigjlhaaGreatDoor.Run Go.Proofs.YtdkkkikcigjlhaaGreatDoorW.PrintWords Go.Proofs.YtdkkkikcigjlhaaGreatDoorW.PrintMore Go.Proofs.YtdkkkikcigjlhaaGreatDoor.Cmp Go.Sort Go.RwLone Go.Proofs.YtdkkkikcigjlhaaGreatDoor.PFnMemMap

theorem findL_ahead (f : List Int → List Int → Int) (key : List Int) : ∀ (A B : List KV), (∀ x ∈ A, f x.1 key < 0) → findL f key (A ++ B) = A.length + findL f key B := by
  intro A
  induction A with
  | nil => intro B _; simp
  | cons x A ih =>
    intro B h
    have := h x (by simp)
    simp only [List.cons_append, findL, if_pos this, ih B (fun y hy => h y (by simp [hy])), List.length_cons]
    omega
theorem findL_stop (f : List Int → List Int → Int) (key : List Int) (B : List KV) (h : ∀ x ∈ B, 0 ≤ f x.1 key) : findL f key B = 0 := by
  cases B with
  | nil => rfl
  | cons x B =>
    have := h x (by simp)
    simp only [findL, if_neg (show ¬ f x.1 key < 0 by omega)]

theorem split_find {f : List Int → List Int → Int} {P R : List Node} {key : List Int} (hP : ∀ x ∈ P, f x.key key < 0) (hR : ∀ x ∈ R, 0 ≤ f x.key key) : findL f key (kvsL (P ++ R)) = P.length := by
  have e : kvsL (P ++ R) = kvsL P ++ kvsL R := List.map_append
  rw [e, findL_ahead f key _ _ (fun x hx => by obtain ⟨y, hy, rfl⟩ := List.mem_map.1 hx; exact hP y hy), findL_stop f key _ (fun x hx => by obtain ⟨y, hy, rfl⟩ := List.mem_map.1 hx; exact hR y hy)]
  simp [kvsL]

theorem split_get {P R : List Node} : (kvsL (P ++ R))[P.length]? = R.head?.map fun x => (x.key, x.val) := by
  unfold kvsL
  rw [List.getElem?_map, List.getElem?_append_right (Nat.le_refl _), Nat.sub_self]
  cases R <;> rfl
theorem split_hit {f : List Int → List Int → Int} (ho : Ord f) {P R : List Node} {key : List Int} (hP : ∀ x ∈ P, f x.key key < 0) (hR : ∀ x ∈ R, 0 ≤ f x.key key) : hitL f key (kvsL (P ++ R)) = true ↔ ∃ x R', R = x :: R' ∧ f x.key key = 0 := by
  unfold hitL
  rw [split_find hP hR, split_get]
  cases R with
  | nil => simp
  | cons x R' =>
    simp only [List.head?_cons, Option.map_some, decide_eq_true_eq]
    exact ⟨fun h => ⟨x, R', rfl, (ho.zero _ _).2 h⟩, fun ⟨y, R2, e, h⟩ => by injection e with e1 e2; subst e1; exact (ho.zero _ _).1 h⟩
theorem split_here {f : List Int → List Int → Int} {P R : List Node} {key : List Int} (hP : ∀ x ∈ P, f x.key key < 0) (hR : ∀ x ∈ R, 0 ≤ f x.key key) {x : Node} {R' : List Node} (e : R = x :: R') : (kvsL (P ++ R)).getD (findL f key (kvsL (P ++ R))) ([], []) = (x.key, x.val) ∧ findL f key (kvsL (P ++ R)) < (kvsL (P ++ R)).length := by
  rw [split_find hP hR]
  subst e
  refine ⟨?_, by simp [kvsL]⟩
  rw [List.getD_eq_getElem?_getD, split_get]
  rfl

section
variable {D : MemD} {w w' : World} {base p kb nb : Nat} {V : Value} {f : List Int → List Int → Int} {ns : List Node}

theorem Mem.rest (h : Mem D w base p V f ns kb nb) (hr : RestTold w base p D.vk D.vn V D.r (D.mh : Int) (ns.length : Int) (weigh ns : Int) D.q D.kv D.nd w') : ∃ D', Mem D' w' base p V f ns kb nb ∧ MemStep w p D D' w' ∧ D'.kv = D.kv ∧ D'.Kx = D.Kx := by
  obtain ⟨hg, cs', hT, hC⟩ := hr
  have ha := h.T.away h.R
  exact ⟨{ D with cs := cs' }, ⟨hT, hC, h.S, h.R.kept hg (fun e => ha.rp (by injection e)) (fun e => ha.gp (by injection e)), h.cm, h.sorted, h.byt, h.cap, h.kvb, h.ndb, h.few, h.light, h.far⟩,
    ⟨Fr.of_grown hg (fun k e => by injection e with e; exact e ▸ .inr (.inl rfl)), fun k hk => .inl hk⟩, rfl, rfl⟩

theorem Mem.len (h : Mem D w base p V f ns kb nb) :
    Calls Tryz.prog 76 #[.pointer (some ⟨p, 0, none⟩)] w fun e w' => e = .returned (.int .i64 ((kvsL ns).length : Int)) ∧ ∃ D', Mem D' w' base p V f ns kb nb ∧ MemStep w p D D' w' :=
  (Len_calls h.T h.C).mono (by
    rintro e w' ⟨rfl, hr⟩
    obtain ⟨D', h1, h2, -⟩ := h.rest hr
    exact ⟨by simp [kvsL], D', h1, h2⟩)

theorem Mem.size (h : Mem D w base p V f ns kb nb) :
    Calls Tryz.prog 77 #[.pointer (some ⟨p, 0, none⟩)] w fun e w' => e = .returned (.int .i64 (weigh ns : Int)) ∧ ∃ D', Mem D' w' base p V f ns kb nb ∧ MemStep w p D D' w' :=
  (Size_calls h.T h.C).mono (by
    rintro e w' ⟨rfl, hr⟩
    obtain ⟨D', h1, h2, -⟩ := h.rest hr
    exact ⟨rfl, D', h1, h2⟩)

variable {A0 : Option Addr} {ca : Nat} {key : List Int} {er : Value}

theorem Mem.has (h : Mem D w base p V f ns kb nb) (hkb : kb ≤ 1099511627776) (hnb : nb ≤ 1099511627776) (hA : Kd.C (Kd.int .u8) w A0 key.length key) (hk : Byt key) (hne : 0 < key.length → ∀ a, A0 = some a → a.block ≠ p) :
    Calls Tryz.prog 74 #[.pointer (some ⟨p, 0, none⟩), .slice A0 key.length ca] w fun e w' => e = .returned (.bool (hitL f key (kvsL ns))) ∧ ∃ D', Mem D' w' base p V f ns kb nb ∧ MemStep w p D D' w' := by
  obtain ⟨P, R, e, hP, hR, hs⟩ := h.split key
  refine (Has_calls (N := D.N) (c := D.c) (Kx := D.Kx) (ck := D.ck) (ca := ca) h.T h.C h.S (Nat.le_trans h.ndb hnb) (Nat.le_trans h.kvb hkb) h.cap h.cm e hP hR hs hk (fun x hx => (h.byt x hx).1) hA hne).mono ?_
  rintro en w' ⟨ex, rfl, hex, hr⟩
  obtain ⟨D', h1, h2, -⟩ := h.rest hr
  refine ⟨?_, D', h1, h2⟩
  have hh := split_hit h.cm.ord hP hR
  rw [← e] at hh
  congr 2
  cases ex <;> cases hb : hitL f key (kvsL ns)
  · rfl
  · exact absurd (hex.2 (hh.1 hb)) (by simp)
  · exact absurd (hh.2 (hex.1 rfl)) (by simp [hb])
  · rfl

theorem own_rowF {W : World} {base n c : Nat} {A : Option Addr} {l : List Int} {ok : Nat → Prop} (h : W.ownsRow base 5 1 (.slice A n c) n (nums .u8 l)) (hq : ∀ k, (Value.slice A n c).ownBlock = some k → ok k) : Kd.F (Kd.int .u8) W ok A n l := fun W' hW =>
  ints_C (own_reads' (own_move h (fun k hk => hW k (hq k hk) (own_lt h k hk))))

def GetT (base p : Nat) (V : Value) (f : List Int → List Int → Int) (ns : List Node) (kb nb : Nat) (D : MemD) (w : World) (key : List Int) (er : Value) (e : Ending) (w' : World) : Prop :=
  ∃ D', Mem D' w' base p V f ns kb nb ∧ MemStep w p D D' w' ∧
    ((hitL f key (kvsL ns) = true ∧ ∃ A c, e = .returned (.tuple #[.slice A ((kvsL ns).getD (findL f key (kvsL ns)) ([], [])).2.length c, .nilIface]) ∧ Kd.F (Kd.int .u8) w' (D'.own p) A ((kvsL ns).getD (findL f key (kvsL ns)) ([], [])).2.length ((kvsL ns).getD (findL f key (kvsL ns)) ([], [])).2) ∨
      (hitL f key (kvsL ns) = false ∧ e = .returned (.tuple #[.slice none 0 0, er])))

theorem Mem.get (h : Mem D w base p V f ns kb nb) (hkb : kb ≤ 1099511627776) (hnb : nb ≤ 1099511627776) (hA : Kd.C (Kd.int .u8) w A0 key.length key) (hk : Byt key) (hne : 0 < key.length → ∀ a, A0 = some a → a.block ≠ p) (hE : w.cell? ⟨0, 0, none⟩ = some er) (hp0 : 0 ≠ p) :
    Calls Tryz.prog 73 #[.pointer (some ⟨p, 0, none⟩), .slice A0 key.length ca] w fun e w' => GetT base p V f ns kb nb D w key er e w' := by
  obtain ⟨P, R, e, hP, hR, hs⟩ := h.split key
  refine (Get_calls (N := D.N) (c := D.c) (Kx := D.Kx) (ck := D.ck) (ca := ca) h.T h.C h.S (Nat.le_trans h.ndb hnb) (Nat.le_trans h.kvb hkb) h.cap h.cm e hP hR hs hk (fun x hx => (h.byt x hx).1) hA hne hE hp0).mono ?_
  rintro en w' ⟨hres, hr⟩
  obtain ⟨D', h1, h2, h3, h4⟩ := h.rest hr
  have hh := split_hit h.cm.ord hP hR
  rw [← e] at hh
  refine ⟨D', h1, h2, ?_⟩
  rcases hres with ⟨x, R', e1, h0, A, c, rfl, hc, hcut⟩ | ⟨hno, rfl⟩
  · obtain ⟨ea, -⟩ := split_here hP hR e1
    rw [← e] at ea
    refine .inl ⟨hh.2 ⟨x, R', e1, h0⟩, A, c, by rw [ea], ?_⟩
    rw [ea]
    have h5 := h1.T.kv
    unfold MemD.vk at h5
    have hrow : Kd.F (Kd.int .u8) w' (D'.own p) D'.Kx D'.kv.length D'.kv := own_rowF h5 (fun k hk => .inr (.inr (.inr (.inl (by unfold MemD.vk; exact hk.symm)))))
    rw [h3, h4] at hrow
    exact fun W' hW => hcut W' (hrow W' hW)
  · refine .inr ⟨?_, rfl⟩
    cases hb : hitL f key (kvsL ns)
    · rfl
    · exact absurd (hh.1 hb) hno

def FindT (base p : Nat) (V : Value) (f : List Int → List Int → Int) (ns : List Node) (kb nb : Nat) (D : MemD) (w : World) (key : List Int) (er : Value) (e : Ending) (w' : World) : Prop :=
  ∃ D', Mem D' w' base p V f ns kb nb ∧ MemStep w p D D' w' ∧
    ((findL f key (kvsL ns) < (kvsL ns).length ∧ ∃ A c B d, e = .returned (.tuple #[.slice A ((kvsL ns).getD (findL f key (kvsL ns)) ([], [])).1.length c, .slice B ((kvsL ns).getD (findL f key (kvsL ns)) ([], [])).2.length d, .nilIface]) ∧ Kd.F (Kd.int .u8) w' (D'.own p) A ((kvsL ns).getD (findL f key (kvsL ns)) ([], [])).1.length ((kvsL ns).getD (findL f key (kvsL ns)) ([], [])).1 ∧ Kd.F (Kd.int .u8) w' (D'.own p) B ((kvsL ns).getD (findL f key (kvsL ns)) ([], [])).2.length ((kvsL ns).getD (findL f key (kvsL ns)) ([], [])).2) ∨
      (¬ findL f key (kvsL ns) < (kvsL ns).length ∧ e = .returned (.tuple #[.slice none 0 0, .slice none 0 0, er])))

theorem Mem.find (h : Mem D w base p V f ns kb nb) (hkb : kb ≤ 1099511627776) (hnb : nb ≤ 1099511627776) (hA : Kd.C (Kd.int .u8) w A0 key.length key) (hk : Byt key) (hne : 0 < key.length → ∀ a, A0 = some a → a.block ≠ p) (hE : w.cell? ⟨0, 0, none⟩ = some er) (hp0 : 0 ≠ p) :
    Calls Tryz.prog 75 #[.pointer (some ⟨p, 0, none⟩), .slice A0 key.length ca] w fun e w' => FindT base p V f ns kb nb D w key er e w' := by
  obtain ⟨P, R, e, hP, hR, hs⟩ := h.split key
  refine (Find_calls (N := D.N) (c := D.c) (Kx := D.Kx) (ck := D.ck) (ca := ca) h.T h.C h.S (Nat.le_trans h.ndb hnb) (Nat.le_trans h.kvb hkb) h.cap h.cm e hP hR hs hk (fun x hx => (h.byt x hx).1) hA hne hE hp0).mono ?_
  rintro en w' ⟨hres, hr⟩
  obtain ⟨D', h1, h2, h3, h4⟩ := h.rest hr
  refine ⟨D', h1, h2, ?_⟩
  rcases hres with ⟨x, R', e1, A, c, B, d, rfl, hc, hd, hcut, hcut2⟩ | ⟨hno, rfl⟩
  · obtain ⟨ea, el⟩ := split_here hP hR e1
    rw [← e] at ea el
    have h5 := h1.T.kv
    unfold MemD.vk at h5
    have hrow : Kd.F (Kd.int .u8) w' (D'.own p) D'.Kx D'.kv.length D'.kv := own_rowF h5 (fun k hk => .inr (.inr (.inr (.inl (by unfold MemD.vk; exact hk.symm)))))
    rw [h3, h4] at hrow
    refine .inl ⟨el, A, c, B, d, by rw [ea], ?_, ?_⟩
    · rw [ea]; exact fun W' hW => hcut W' (hrow W' hW)
    · rw [ea]; exact fun W' hW => hcut2 W' (hrow W' hW)
  · refine .inr ⟨?_, rfl⟩
    have h6 := split_find hP hR
    rw [← e] at h6
    rw [h6, e, hno, List.append_nil]
    simp [kvsL]

def dropL (f : List Int → List Int → Int) (key : List Int) (L : List KV) : List KV := if hitL f key L = true then L.take (findL f key L) ++ L.drop (findL f key L + 1) else L

theorem Mem.del (h : Mem D w base p V f ns kb nb) (hkb : kb ≤ 1099511627776) (hnb : nb ≤ 1099511627776) (hA : Kd.C (Kd.int .u8) w A0 key.length key) (hk : Byt key) (hne : 0 < key.length → ∀ a, A0 = some a → a.block ≠ p) (hE : w.cell? ⟨0, 0, none⟩ = some er) (hp0 : 0 ≠ p) :
    Calls Tryz.prog 72 #[.pointer (some ⟨p, 0, none⟩), .slice A0 key.length ca] w fun e w' => e = .returned (if hitL f key (kvsL ns) = true then .nilIface else er) ∧ ∃ D' ns', Mem D' w' base p V f ns' kb nb ∧ MemStep w p D D' w' ∧ kvsL ns' = dropL f key (kvsL ns) := by
  obtain ⟨P, R, e, hP, hR, hs⟩ := h.split key
  obtain ⟨g, hN, hgp, hbg, hgl, hcn⟩ := Tab.own h.T (by have := h.S.len; omega)
  have hTT := h.T
  have hCC := h.C
  unfold MemD.vn MemD.vk at hTT hCC
  rw [hN] at hTT hCC
  have hl := h.light
  have hf := h.few
  refine (Del_calls (g := g) (c := D.c) (Kx := D.Kx) (ck := D.ck) (ca := ca) hTT hCC h.S (Nat.le_trans h.ndb hnb) (Nat.le_trans h.kvb hkb) h.cap h.cm e hP hR hs hk (fun x hx => (h.byt x hx).1) hA hne hE hp0 (by omega) (by omega)).mono ?_
  rintro en w' ⟨hfr, cs', q', hres⟩
  have hh := split_hit h.cm.ord hP hR
  rw [← e] at hh
  have hown : ∀ k, (k = p ∨ k = g) → D.own p k := by
    rintro k (rfl | rfl)
    · exact .inr (.inl rfl)
    · exact .inr (.inr (.inr (.inr (by unfold MemD.vn; rw [hN]; rfl))))
  have ha := h.T.away h.R
  have hrg : D.r ≠ g := fun q => ha.rn (by unfold MemD.vn; rw [hN, q]; rfl)
  have hgg : D.gr ≠ g := fun q => ha.gn (by unfold MemD.vn; rw [hN, q]; rfl)
  obtain ⟨ra, ⟨hi, lo, rb⟩, rc⟩ := h.R
  have hR' : Rnd w' D.r D.gr := ⟨(hfr.block D.r (blk_lt ra) (fun q => q.elim ha.rp hrg)).trans ra, ⟨hi, lo, (hfr.block D.gr (blk_lt rb) (fun q => q.elim ha.gp hgg)).trans rb⟩, rc⟩
  have hstep : ∀ D' : MemD, (∀ k, D'.own p k → D.own p k) → MemStep w p D D' w' := fun D' hD => ⟨hfr.mono hown, fun k hk => .inl (hD k hk)⟩
  rcases hres with ⟨hno, rfl, hT, hC⟩ | ⟨x, R', hx, h0, rfl, hT, hC⟩
  · have hf0 : hitL f key (kvsL ns) = false := by
      cases hb : hitL f key (kvsL ns)
      · rfl
      · exact absurd (hh.1 hb) hno
    refine ⟨by rw [hf0]; rfl, { D with cs := cs', q := q' }, ns, ⟨?_, ?_, h.S, hR', h.cm, h.sorted, h.byt, h.cap, h.kvb, h.ndb, h.few, h.light, h.far⟩, hstep _ (fun k hk => hk), ?_⟩
    · show Tab w' base p cs' (.slice D.Kx D.kv.length D.ck) (.slice D.N D.nd.length D.c) D.kv D.nd
      rw [hN]; exact hT
    · show Cs cs' V D.r 0 0 (.slice D.Kx D.kv.length D.ck) (.slice D.N D.nd.length D.c) q' (D.mh : Int) (ns.length : Int) (weigh ns : Int)
      rw [hN]; exact hC
    · unfold dropL
      rw [hf0]; rfl
  · have hf1 : hitL f key (kvsL ns) = true := hh.2 ⟨x, R', hx, h0⟩
    have ens : ns = P ++ x :: R' := by rw [e, hx]
    have hsub : ∀ y ∈ P ++ R', y ∈ ns := fun y hy => by
      rw [ens]
      rcases List.mem_append.1 hy with q | q
      · exact List.mem_append_left _ q
      · exact List.mem_append_right _ (List.mem_cons_of_mem _ q)
    have hlen : (ns.length : Int) - 1 = ((P ++ R').length : Int) := by rw [ens]; simp; omega
    have hw : weigh ns = weigh P + (x.key.length + x.val.length + weigh R') := by rw [ens, weigh_app, weigh_cons]
    have hw2 : weigh (P ++ R') = weigh P + weigh R' := weigh_app _ _
    have hwe : (weigh ns : Int) - ((x.key.length : Int) + (x.val.length : Int)) = (weigh (P ++ R') : Int) := by rw [hw, hw2]; omega
    have hll : (P ++ R').length ≤ ns.length := by rw [ens]; simp
    have hso := h.sorted
    rw [ens] at hso
    obtain ⟨s1, s2, s3⟩ := List.pairwise_append.1 hso
    have hsort : Sorted f (P ++ R') := List.pairwise_append.2 ⟨s1, (List.pairwise_cons.1 s2).2, fun a ha b hb => s3 a ha b (List.mem_cons_of_mem _ hb)⟩
    refine ⟨by rw [hf1]; rfl, { D with cs := cs', q := q', nd := delN P x.h D.nd }, P ++ R', ⟨?_, ?_, skip_del h.S ens, hR', h.cm, hsort, fun y hy => h.byt y (hsub y hy), h.cap, h.kvb, ?_, Nat.le_trans hll h.few, ?_, ?_⟩, hstep _ ?_, ?_⟩
    · show Tab w' base p cs' (.slice D.Kx D.kv.length D.ck) (.slice D.N (delN P x.h D.nd).length D.c) D.kv (delN P x.h D.nd)
      rw [hN, delN_len]; exact hT
    · show Cs cs' V D.r 0 0 (.slice D.Kx D.kv.length D.ck) (.slice D.N (delN P x.h D.nd).length D.c) q' (D.mh : Int) ((P ++ R').length : Int) (weigh (P ++ R') : Int)
      rw [hN, delN_len, ← hlen, ← hwe]; exact hC
    · show (delN P x.h D.nd).length ≤ nb
      rw [delN_len]; exact h.ndb
    · rw [hw2]; omega
    · intro k hk
      refine h.far k ?_
      unfold MemD.own MemD.vn at hk ⊢
      simp only [delN_len] at hk
      exact hk
    · intro k hk
      unfold MemD.own MemD.vn at hk ⊢
      simp only [delN_len] at hk
      exact hk
    · unfold dropL
      rw [if_pos hf1]
      have hsf := split_find hP hR
      rw [← e] at hsf
      rw [hsf, ens]
      have e1 : kvsL (P ++ x :: R') = kvsL P ++ (x.key, x.val) :: kvsL R' := by simp [kvsL]
      have e2 : kvsL (P ++ R') = kvsL P ++ kvsL R' := by simp [kvsL]
      have e3 : (kvsL P).length = P.length := by simp [kvsL]
      rw [e1, e2, ← e3, List.take_left, List.drop_append, List.drop_of_length_le (by omega), Nat.add_sub_cancel_left]
      rfl
end

end Go.Proofs.YtdkkkikcigjlhaaGreatDoor.Md

namespace Go.Proofs.YtdkkkikcigjlhaaGreatDoor.Md
open Go.RowKit Go.Proofs.YtdkkkikcigjlhaaGreatDoor.Con Go.Proofs.YtdkkkikcigjlhaaGreatDoor.Run Go.Proofs.YtdkkkikcigjlhaaGreatDoorW.PrintWords Go.Proofs.YtdkkkikcigjlhaaGreatDoorW.PrintMore Go.Proofs.YtdkkkikcigjlhaaGreatDoor.Cmp Go.Sort Go.RwLone Go.Proofs.YtdkkkikcigjlhaaGreatDoor.PFnMemMap

theorem Cs.set1 {cs : Array Value} {V : Value} {r : Nat} {l0 l4 : Int} {vk vn : Value} {q : Nat → Int} {mh n sz : Int} (h : Cs cs V r l0 l4 vk vn q mh n sz) (r' : Nat) : Cs (cs.setIfInBounds 1 (.pointer (some ⟨r', 0, none⟩))) V r' l0 l4 vk vn q mh n sz := by
  have hs := h.size
  exact ⟨by simpa using hs, (set_ne (by omega) _).trans h.c0, set_eq (by omega) _, (set_ne (by omega) _).trans h.c2, (set_ne (by omega) _).trans h.c4, (set_ne (by omega) _).trans h.c5, (set_ne (by omega) _).trans h.c6, (set_ne (by omega) _).trans h.c8, (set_ne (by omega) _).trans h.c9, fun i hi => (set_ne (by omega) _).trans (h.cq i hi), (set_ne (by omega) _).trans h.c22, (set_ne (by omega) _).trans h.c23, (set_ne (by omega) _).trans h.c24⟩

structure RsSt (w W : World) (base p g ck c : Nat) (Kx : Option Addr) (V : Value) (r : Nat) (l0 l4 : Int) (q : Nat → Int) (mh n sz : Int) (cs : Array Value) (kv nd : List Int) (kn nn : Nat) : Prop where
  T : Tab W base p cs (.slice Kx kn ck) (.slice (some ⟨g, 0, none⟩) nn c) kv nd
  C : Cs cs V r l0 l4 (.slice Kx kn ck) (.slice (some ⟨g, 0, none⟩) nn c) q mh n sz
  F : Fr w W (fun k => k = p ∨ k = g)
  kl : kv.length = kn
  nl : nd.length = nn

section
variable {w W : World} {base p g ck c r kn nn : Nat} {Kx : Option Addr} {V : Value} {l0 l4 mh n sz : Int} {q : Nat → Int} {cs : Array Value} {kv nd : List Int}

theorem RsSt.setP (h : RsSt w W base p g ck c Kx V r l0 l4 q mh n sz cs kv nd kn nn) (i : Nat) (u : Value) : Tab (W.setCell ⟨p, i, none⟩ u) base p (cs.setIfInBounds i u) (.slice Kx kn ck) (.slice (some ⟨g, 0, none⟩) nn c) kv nd ∧ Fr w (W.setCell ⟨p, i, none⟩ u) (fun k => k = p ∨ k = g) := ⟨h.T.set i u, h.F.setCell (p := ⟨p, i, none⟩) (.inl (.inl rfl)) u⟩
theorem RsSt.s22 (h : RsSt w W base p g ck c Kx V r l0 l4 q mh n sz cs kv nd kn nn) (v : Int) : RsSt w (W.setCell ⟨p, 22, none⟩ (.int .i64 v)) base p g ck c Kx V r l0 l4 q v n sz (cs.setIfInBounds 22 (.int .i64 v)) kv nd kn nn := ⟨(h.setP 22 _).1, h.C.set22 v, (h.setP 22 _).2, h.kl, h.nl⟩
theorem RsSt.s23 (h : RsSt w W base p g ck c Kx V r l0 l4 q mh n sz cs kv nd kn nn) (v : Int) : RsSt w (W.setCell ⟨p, 23, none⟩ (.int .i64 v)) base p g ck c Kx V r l0 l4 q mh v sz (cs.setIfInBounds 23 (.int .i64 v)) kv nd kn nn := ⟨(h.setP 23 _).1, h.C.set23 v, (h.setP 23 _).2, h.kl, h.nl⟩
theorem RsSt.s24 (h : RsSt w W base p g ck c Kx V r l0 l4 q mh n sz cs kv nd kn nn) (v : Int) : RsSt w (W.setCell ⟨p, 24, none⟩ (.int .i64 v)) base p g ck c Kx V r l0 l4 q mh n v (cs.setIfInBounds 24 (.int .i64 v)) kv nd kn nn := ⟨(h.setP 24 _).1, h.C.set24 v, (h.setP 24 _).2, h.kl, h.nl⟩
theorem RsSt.sq (h : RsSt w W base p g ck c Kx V r l0 l4 q mh n sz cs kv nd kn nn) {i : Nat} (hi : i < 12) (v : Int) : RsSt w (W.setCell ⟨p, 10 + i, none⟩ (.int .i64 v)) base p g ck c Kx V r l0 l4 (fun j => if j = i then v else q j) mh n sz (cs.setIfInBounds (10 + i) (.int .i64 v)) kv nd kn nn := ⟨(h.setP _ _).1, h.C.setq hi v, (h.setP _ _).2, h.kl, h.nl⟩
theorem RsSt.s2 (h : RsSt w W base p g ck c Kx V r l0 l4 q mh n sz cs kv nd kn nn) (v : Int) : RsSt w (W.setCell ⟨p, 2, none⟩ (.int .i32 v)) base p g ck c Kx V r v l4 q mh n sz (cs.setIfInBounds 2 (.int .i32 v)) kv nd kn nn := ⟨(h.setP 2 _).1, h.C.set2 v, (h.setP 2 _).2, h.kl, h.nl⟩
theorem RsSt.s6 (h : RsSt w W base p g ck c Kx V r l0 l4 q mh n sz cs kv nd kn nn) (v : Int) : RsSt w (W.setCell ⟨p, 6, none⟩ (.int .i32 v)) base p g ck c Kx V r l0 v q mh n sz (cs.setIfInBounds 6 (.int .i32 v)) kv nd kn nn := ⟨(h.setP 6 _).1, h.C.set6 v, (h.setP 6 _).2, h.kl, h.nl⟩

theorem RsSt.cutK (h : RsSt w W base p g ck c Kx V r l0 l4 q mh n sz cs kv nd kn nn) : RsSt w (W.setCell ⟨p, 8, none⟩ (.slice Kx 0 ck)) base p g ck c Kx V r l0 l4 q mh n sz (cs.setIfInBounds 8 (.slice Kx 0 ck)) [] nd 0 nn := by
  obtain ⟨t, f⟩ := h.setP 8 (.slice Kx 0 ck)
  have hk := t.kv
  rw [h.kl] at hk
  have := own_take hk (Nat.zero_le _)
  rw [Nat.zero_mul, List.take_zero] at this
  exact ⟨⟨t.cell, this, t.nd, t.at_⟩, h.C.set8 _, f, rfl, h.nl⟩
theorem RsSt.cutN (h : RsSt w W base p g ck c Kx V r l0 l4 q mh n sz cs kv nd kn nn) {m : Nat} (hm : m ≤ nn) : RsSt w (W.setCell ⟨p, 9, none⟩ (.slice (some ⟨g, 0, none⟩) m c)) base p g ck c Kx V r l0 l4 q mh n sz (cs.setIfInBounds 9 (.slice (some ⟨g, 0, none⟩) m c)) kv (nd.take m) kn m := by
  obtain ⟨t, f⟩ := h.setP 9 (.slice (some ⟨g, 0, none⟩) m c)
  have hk := t.nd
  rw [h.nl] at hk
  have hl : (nd.take m).length = m := by rw [List.length_take, h.nl]; omega
  have := own_take hk hm
  rw [Nat.mul_one, show (nums .i64 nd).take m = nums .i64 (nd.take m) by simp [nums, List.map_take]] at this
  refine ⟨⟨t.cell, t.kv, ?_, t.at_⟩, h.C.set9 _, f, h.kl, hl⟩
  rw [hl]; exact this
theorem RsSt.num (h : RsSt w W base p g ck c Kx V r l0 l4 q mh n sz cs kv nd kn nn) (i : Nat) (v : Int) : RsSt w (W.setCell ⟨g, i, none⟩ (.int .i64 v)) base p g ck c Kx V r l0 l4 q mh n sz cs kv (nd.set i v) kn nn := by
  have hT := h.T
  rw [← h.nl] at hT
  have := hT.setNd i v
  rw [h.nl] at this
  exact ⟨this, h.C, h.F.setCell (p := ⟨g, i, none⟩) (.inl (.inr rfl)) _, h.kl, by rw [List.length_set]; exact h.nl⟩
theorem RsSt.cellP (h : RsSt w W base p g ck c Kx V r l0 l4 q mh n sz cs kv nd kn nn) (i : Nat) {u : Value} (hu : cs[i]? = some u) : W.cell? ⟨p, i, none⟩ = some u ∧ W.frozen? ⟨p, i, none⟩ = false := ⟨(blk_cell h.T.cell i).trans hu, blk_frozen h.T.cell i⟩
theorem RsSt.cellG (h : RsSt w W base p g ck c Kx V r l0 l4 q mh n sz cs kv nd kn nn) {i : Nat} (hi : i < nn) : W.cell? ⟨g, i, none⟩ = some (.int .i64 (G nd i)) ∧ W.frozen? ⟨g, i, none⟩ = false := by
  have hT := h.T
  rw [← h.nl] at hT
  have := hT.numG (i := i) (by rw [h.nl]; exact hi)
  exact this
end

theorem rs_two (w : World) (x y : Array Value) (t u : TypeId) : ((w.alloc (.cells x t)).alloc (.cells y u)).heap[w.heap.size]? = some (.cells x t (0, 0)) ∧ ((w.alloc (.cells x t)).alloc (.cells y u)).heap[w.heap.size + 1]? = some (.cells y u (0, 0)) ∧ Below w.heap.size w ((w.alloc (.cells x t)).alloc (.cells y u)) := by
  have h1 := below_alloc (Below.refl w.heap.size w) (.cells x t)
  have n1 := blk_new w (.cells x t)
  have n2 := blk_new (w.alloc (.cells x t)) (.cells y u)
  rw [World.size_alloc] at n2
  have h2 := below_alloc (Below.refl (w.alloc (.cells x t)).heap.size (w.alloc (.cells x t))) (.cells y u)
  exact ⟨(h2.block _ (blk_lt n1)).trans n1, n2, h1.trans (h2.mono h1.size)⟩

theorem RsSt.below {w W W1 : World} {base p g ck c r kn nn : Nat} {Kx : Option Addr} {V : Value} {l0 l4 mh n sz : Int} {q : Nat → Int} {cs : Array Value} {kv nd : List Int} (h : RsSt w W base p g ck c Kx V r l0 l4 q mh n sz cs kv nd kn nn) (hb : Below W.heap.size W W1) : RsSt w W1 base p g ck c Kx V r l0 l4 q mh n sz cs kv nd kn nn :=
  ⟨h.T.below hb, h.C, h.F.then_ (Fr.of_below hb (fun _ => False)) (fun k hk => hk.elim), h.kl, h.nl⟩
theorem RsSt.s1 {w W : World} {base p g ck c r kn nn : Nat} {Kx : Option Addr} {V : Value} {l0 l4 mh n sz : Int} {q : Nat → Int} {cs : Array Value} {kv nd : List Int} (h : RsSt w W base p g ck c Kx V r l0 l4 q mh n sz cs kv nd kn nn) (r' : Nat) : RsSt w (W.setCell ⟨p, 1, none⟩ (.pointer (some ⟨r', 0, none⟩))) base p g ck c Kx V r' l0 l4 q mh n sz (cs.setIfInBounds 1 (.pointer (some ⟨r', 0, none⟩))) kv nd kn nn := ⟨(h.setP 1 _).1, h.C.set1 r', (h.setP 1 _).2, h.kl, h.nl⟩

def RstTold (w : World) (base p g ck c : Nat) (Kx : Option Addr) (V : Value) (e : Ending) (w' : World) : Prop :=
  e = .returned (.tuple #[]) ∧ ∃ cs q nd, RsSt w w' base p g ck c Kx V (w.heap.size + 1) 0 0 q 1 0 0 cs [] nd 0 16 ∧ (∀ i, i ≠ 3 → G nd i = 0) ∧ Rnd w' (w.heap.size + 1) w.heap.size

set_option maxHeartbeats 6400000 in
set_option maxRecDepth 100000 in
theorem Reset_calls {w : World} {base p g ck c r : Nat} {Kx : Option Addr} {V : Value} {n sz mh : Int} {q : Nat → Int} {cs : Array Value} {kv nd : List Int} (hT : Tab w base p cs (.slice Kx kv.length ck) (.slice (some ⟨g, 0, none⟩) nd.length c) kv nd) (hC : Cs cs V r 0 0 (.slice Kx kv.length ck) (.slice (some ⟨g, 0, none⟩) nd.length c) q mh n sz) (h16 : 16 ≤ nd.length) (hnc : nd.length ≤ c) (hck : kv.length ≤ ck) :
    Calls Tryz.prog 78 #[.pointer (some ⟨p, 0, none⟩)] w fun e w' => RstTold w base p g ck c Kx V e w' := by
  have HS := Lib.hid (show RsSt w w base p g ck c Kx V r 0 0 q mh n sz cs kv nd kv.length nd.length from ⟨hT, hC, Fr.refl _ _, rfl, rfl⟩)
  have HN := Lib.hid (And.intro h16 (And.intro hnc hck))
  have HLT := Lib.hid (blk_lt hT.cell)
  have HGP := Lib.hid (show g ≠ p from fun e => own_ne hT.nd hT.cell (by decide) (by rw [e]; rfl))
  have HGL := Lib.hid (show g < w.heap.size from own_lt hT.nd g rfl)
  clear hT hC h16 hnc hck
  have c2 := (HS.out.cellP 2 HS.out.C.c2).1
  have c4 := (HS.out.cellP 4 HS.out.C.c4).1
  have c5 := (HS.out.cellP 5 HS.out.C.c5).1
  have c6 := (HS.out.cellP 6 HS.out.C.c6).1
  have f2 := (HS.out.cellP 2 HS.out.C.c2).2
  have f6 := (HS.out.cellP 6 HS.out.C.c6).2
  have HS1 := Lib.hid ((HS.out.s2 1).s6 (-1073741824))
  have hsz : ((w.setCell ⟨p, 2, none⟩ (.int .i32 1)).setCell ⟨p, 6, none⟩ (.int .i32 (-1073741824))).heap.size = w.heap.size := by simp
  go_enter Tryz.func78, Tryz.ntmps78
  go_wp2_with (fail)
  refine (wlock_free rwWLib p 2 _ _ _ c2 c4 c5 c6 f2 f6).mono ?_
  rintro e w' ⟨rfl, rfl⟩
  simp only [show 2 + 4 = 6 from rfl]
  generalize (w.setCell ⟨p, 2, none⟩ (.int .i32 1)).setCell ⟨p, 6, none⟩ (.int .i32 (-1073741824)) = w1 at *
  have HSZ := Lib.hid hsz
  clear hsz c2 c4 c5 c6 f2 f6 HS
  have HTW := Lib.hid (rs_two w1 #[.int .u64 3735928559, .int .u64 0] #[.iface 172 (.pointer (some ⟨w1.heap.size, 0, none⟩))] 230 228)
  have HS2 := Lib.hid (HS1.out.below HTW.out.2.2)
  have e1 := (HS2.out.cellP 1 HS2.out.C.c1).1
  have g1 := (HS2.out.cellP 1 HS2.out.C.c1).2
  go_upto_region 2 with (first
    | (go_at_call 86; (with_reducible refine (PCG_calls _ _ _).mono ?_); rintro e wa ⟨rfl, rfl⟩)
    | (go_at_call 85; (with_reducible refine (randNew_calls _ _).mono ?_); rintro e wa ⟨rfl, rfl⟩))
  have hpl : p < w1.heap.size := by have := HLT.out; have := HSZ.out; omega
  have hgl : g < w1.heap.size := by have := HGL.out; have := HSZ.out; omega
  have hr1 := HTW.out.1
  have hr2 := HTW.out.2.1
  generalize (w1.alloc (.cells #[.int .u64 3735928559, .int .u64 0] 230)).alloc (.cells #[.iface 172 (.pointer (some ⟨w1.heap.size, 0, none⟩))] 228) = w2 at *
  rw [HSZ.out] at hr1 hr2
  have hrnd : Rnd w2 (w.heap.size + 1) w.heap.size := ⟨hr2, ⟨_, _, hr1⟩, by omega⟩
  have HRN := Lib.hid hrnd
  have HS3 := Lib.hid (HS2.out.s1 (w1.heap.size + 1))
  rw [HSZ.out] at HS3
  have HFW := Lib.hid HS2.out.F
  have HF0 := Lib.hid (show ∀ W, Fr w2 W (fun k => k = p ∨ k = g) → Rnd W (w.heap.size + 1) w.heap.size from fun W hW => by
    have h1 := HLT.out
    have h2 := HGL.out
    exact ⟨(hW.block _ (blk_lt hr2) (fun q => by rcases q with q | q <;> omega)).trans hr2, ⟨_, _, (hW.block _ (blk_lt hr1) (fun q => by rcases q with q | q <;> omega)).trans hr1⟩, by omega⟩)
  clear e1 g1 hr1 hr2 hrnd HS1 HS2 HTW hpl hgl
  rw [HSZ.out]
  have HW3 := Lib.hid (show Fr w2 (w2.setCell ⟨p, 1, none⟩ (.pointer (some ⟨w.heap.size + 1, 0, none⟩))) (fun k => k = p ∨ k = g) from (Fr.refl w2 _).setCell (p := ⟨p, 1, none⟩) (.inl (.inl rfl)) _)
  generalize w2.setCell ⟨p, 1, none⟩ (.pointer (some ⟨w.heap.size + 1, 0, none⟩)) = w3 at *
  have HS4 := Lib.hid (show RsSt w2 w3 base p g ck c Kx V (w.heap.size + 1) 1 (-1073741824) q mh n sz _ kv nd kv.length nd.length from ⟨HS3.out.T, HS3.out.C, HW3.out, rfl, rfl⟩)
  clear HS3 HW3
  have e22 := (HS4.out.cellP 22 HS4.out.C.c22).1
  have f22 := (HS4.out.cellP 22 HS4.out.C.c22).2
  have e23 := (HS4.out.cellP 23 HS4.out.C.c23).1
  have f23 := (HS4.out.cellP 23 HS4.out.C.c23).2
  have e24 := (HS4.out.cellP 24 HS4.out.C.c24).1
  have f24 := (HS4.out.cellP 24 HS4.out.C.c24).2
  have e8 := (HS4.out.cellP 8 HS4.out.C.c8).1
  have f8 := (HS4.out.cellP 8 HS4.out.C.c8).2
  have e9 := (HS4.out.cellP 9 HS4.out.C.c9).1
  have f9 := (HS4.out.cellP 9 HS4.out.C.c9).2
  obtain ⟨i0, hi0, hzz0⟩ := Option.map_eq_some_iff.1 info_u8
  obtain ⟨i1, hi1, hzz1⟩ := Option.map_eq_some_iff.1 info_int
  have sk := cut_to (P := Tryz.prog) 25 5 .i64 Tryz.underlying25 hi0 Kx kv.length ck 0 (by omega) (by omega) HN.out.2.2
  have sn := cut_to (P := Tryz.prog) 174 3 .i64 Tryz.underlying174 hi1 (some ⟨g, 0, none⟩) nd.length c 16 (by omega) (by have := HN.out.1; omega) HN.out.2.1
  simp only [show (0 : Int).toNat = 0 from rfl, show (16 : Int).toNat = 16 from rfl] at sk sn
  clear hi0 hzz0 hi1 hzz1
  go_upto_region 7 with (fail)
  have HS5 := Lib.hid (((((HS4.out.s22 1).s23 0).s24 0).cutK).cutN HN.out.1)
  clear HS4 e22 f22 e23 f23 e24 f24 e8 f8 e9 f9 sk sn
  generalize ((((w3.setCell ⟨p, 22, none⟩ (.int .i64 1)).setCell ⟨p, 23, none⟩ (.int .i64 0)).setCell ⟨p, 24, none⟩ (.int .i64 0)).setCell ⟨p, 8, none⟩ (.slice Kx 0 ck)).setCell ⟨p, 9, none⟩ (.slice (some ⟨g, 0, none⟩) 16 c) = w4 at *
  have e9 := (HS5.out.cellP 9 HS5.out.C.c9).1
  have a0 := (HS5.out.cellG (i := 0) (by omega)).1
  have a1 := (HS5.out.cellG (i := 1) (by omega)).1
  have a2 := (HS5.out.cellG (i := 2) (by omega)).1
  have a3 := (HS5.out.cellG (i := 3) (by omega)).1
  have b0 := (HS5.out.cellG (i := 0) (by omega)).2
  have b1 := (HS5.out.cellG (i := 1) (by omega)).2
  have b2 := (HS5.out.cellG (i := 2) (by omega)).2
  have b3 := (HS5.out.cellG (i := 3) (by omega)).2
  have hpg : ¬ p = g := fun e => HGP.out e.symm
  have hgp : ¬ g = p := HGP.out
  have h0 : (nd.take 16).length = 16 := HS5.out.nl
  have hz4 : ∀ k, k ≠ 3 → k < 4 → G (((((nd.take 16).set 0 0).set 1 0).set 2 0).set 3 12) k = 0 := by
    intro k h3 h4
    rw [G_set_ne (by omega)]
    by_cases q2 : k = 2
    · subst q2; exact G_set_same (by simp only [List.length_set]; omega) _
    · rw [G_set_ne (by omega)]
      by_cases q1 : k = 1
      · subst q1; exact G_set_same (by simp only [List.length_set]; omega) _
      · rw [G_set_ne (by omega)]
        have : k = 0 := by omega
        subst this
        exact G_set_same (by omega) _
  have HZ4 := Lib.hid hz4
  clear hz4 h0
  go_wp2
  have HS6 := Lib.hid ((((HS5.out.num 0 0).num 1 0).num 2 0).num 3 12)
  clear HS5 e9 a0 a1 a2 a3 b0 b1 b2 b3
  generalize (((w4.setCell ⟨g, 0, none⟩ (.int .i64 0)).setCell ⟨g, 1, none⟩ (.int .i64 0)).setCell ⟨g, 2, none⟩ (.int .i64 0)).setCell ⟨g, 3, none⟩ (.int .i64 12) = w5 at *
  generalize ((((nd.take 16).set 0 0).set 1 0).set 2 0).set 3 12 = nd5 at *
  go_loopg [2] 12 (fun k v2 w' => ∃ (i : Nat) (cs' : Array Value) (q' : Nat → Int) (nd' : List Int), v2 = .int .i64 (i : Int) ∧ Hid (i ≤ 12 ∧ 12 ≤ i + k) ∧ Hid (∀ k, k ≠ 3 → k < 4 + i → G nd' k = 0) ∧ Hid (RsSt w2 w' base p g ck c Kx V (w.heap.size + 1) 1 (-1073741824) q' 1 0 0 cs' [] nd' 0 16))
  case atStart => exact ⟨0, _, _, _, rfl, Lib.hid ⟨by omega, by omega⟩, HZ4, HS6⟩
  case round =>
    obtain ⟨i, cs', q', nd', rfl, HI, HZ, HS7⟩ := hrel
    by_cases hi : i < 12
    · have z0 : decide ((i : Int) < 12) = true := decide_eq_true (by omega)
      have z1 : (i : Int) < 12 := by omega
      have w0 : wrap64 ((i : Int) + 1) = (i : Int) + 1 := by unfold wrap64; omega
      have w4' : wrap64 (4 + (i : Int)) = 4 + (i : Int) := by unfold wrap64; omega
      have b4 : 4 + (i : Int) < 16 := by omega
      have b5 : (0 : Int) ≤ 4 + (i : Int) := by omega
      have b6 : (4 + (i : Int)).toNat = 4 + i := by omega
      have e9 := (HS7.out.cellP 9 HS7.out.C.c9).1
      have a0 := (HS7.out.cellG (i := 4 + i) (by omega)).1
      have a1 := (HS7.out.cellG (i := 4 + i) (by omega)).2
      have c0 := (HS7.out.cellP (10 + i) (HS7.out.C.cq i hi)).1
      have c1 := (HS7.out.cellP (10 + i) (HS7.out.C.cq i hi)).2
      have HII := Lib.hid hi
      clear hi
      go_wp2
      go_roundg (gk - 1)
      case measure => have := HI.out; have := HII.out; omega
      case rel =>
        have h12 := HII.out
        have hl : nd'.length = 16 := HS7.out.nl
        refine ⟨i + 1, _, _, (nd'.set (4 + i) 0), ?_, Lib.hid ⟨by omega, by have := HI.out; omega⟩, Lib.hid (fun k h3 h4 => ?_), Lib.hid ((HS7.out.num (4 + i) 0).sq h12 0)⟩
        · first | rfl | exact congrArg (Value.int .i64) w0
        · by_cases hk : k = 4 + i
          · subst hk; exact G_set_same (by omega) _
          · rw [G_set_ne (fun e => hk e.symm)]; exact HZ.out k h3 (by omega)
    · have z0 : decide ((i : Int) < 12) = false := decide_eq_false (by omega)
      have hi12 : i = 12 := by have := HI.out; omega
      subst hi12
      have hp2 := HS7.out.cellP 2 HS7.out.C.c2
      have hp4 := HS7.out.cellP 4 HS7.out.C.c4
      have hp5 := HS7.out.cellP 5 HS7.out.C.c5
      have hp6 := HS7.out.cellP 6 HS7.out.C.c6
      go_wp2_with (fail)
      refine (wunlock_held rwWLib p 2 _ _ _ hp2.1 hp4.1 hp5.1 hp6.1 hp2.2 hp6.2).mono ?_
      rintro e w'' ⟨rfl, rfl⟩
      simp only [show 2 + 4 = 6 from rfl]
      go_wp2
      go_end0
      have hl : nd'.length = 16 := HS7.out.nl
      have HS8 := (HS7.out.s6 0).s2 0
      refine ⟨rfl, _, _, nd', ⟨HS8.T, HS8.C, HFW.out.then_ HS8.F (fun k hk => .inl hk), HS8.kl, HS8.nl⟩, fun k h3 => ?_, HF0.out _ HS8.F⟩
      by_cases hk : k < 16
      · exact HZ.out k h3 (by omega)
      · simp [G, List.getD_eq_getElem?_getD, List.getElem?_eq_none (by omega : nd'.length ≤ k)]

theorem own_block_any (A : Option Addr) (n m c d : Nat) : Value.ownBlock (.slice A n c) = Value.ownBlock (.slice A m d) := by cases A <;> rfl

theorem Mem.reset {D : MemD} {w : World} {base p kb nb : Nat} {V : Value} {f : List Int → List Int → Int} {ns : List Node} (h : Mem D w base p V f ns kb nb) :
    Calls Tryz.prog 78 #[.pointer (some ⟨p, 0, none⟩)] w fun e w' => e = .returned (.tuple #[]) ∧ ∃ D', Mem D' w' base p V f [] kb nb ∧ MemStep w p D D' w' := by
  have h16 : 16 ≤ D.nd.length := by have := h.S.len; omega
  obtain ⟨g, hN, hgp, hbg, hgl, hcn⟩ := Tab.own h.T (by omega)
  have hTT := h.T
  have hCC := h.C
  unfold MemD.vn MemD.vk at hTT hCC
  rw [hN] at hTT hCC
  refine (Reset_calls (Kx := D.Kx) (ck := D.ck) (g := g) (c := D.c) hTT hCC h16 hcn h.cap).mono ?_
  rintro e w' ⟨rfl, cs', q', nd', HS, HZ, HR⟩
  have hown : ∀ k, (k = p ∨ k = g) → D.own p k := by
    rintro k (rfl | rfl)
    · exact .inr (.inl rfl)
    · exact .inr (.inr (.inr (.inr (by unfold MemD.vn; rw [hN]; rfl))))
  have hnl : nd'.length = 16 := HS.nl
  have hsp : w.heap.size ≤ w.heap.size := Nat.le_refl _
  have hown' : ∀ k, (⟨cs', q', w.heap.size + 1, w.heap.size, D.Kx, D.ck, D.N, D.c, [], nd', 1⟩ : MemD).own p k → D.own p k ∨ w.heap.size ≤ k := by
    intro k hk
    rcases hk with hk | hk | hk | hk | hk
    · exact .inr (by have : k = w.heap.size + 1 := hk; omega)
    · exact .inl (.inr (.inl hk))
    · exact .inr (by have : k = w.heap.size := hk; omega)
    · exact .inl (.inr (.inr (.inr (.inl (hk.trans (own_block_any _ _ _ _ _))))))
    · exact .inl (.inr (.inr (.inr (.inr (hk.trans (own_block_any _ _ _ _ _))))))
  refine ⟨rfl, ⟨cs', q', w.heap.size + 1, w.heap.size, D.Kx, D.ck, D.N, D.c, [], nd', 1⟩, ⟨?_, ?_, ?_, HR, h.cm, List.Pairwise.nil, by simp, Nat.zero_le _, Nat.zero_le _, ?_, Nat.zero_le _, Nat.zero_le _, ?_⟩, ⟨HS.F.mono hown, hown'⟩⟩
  · show Tab w' base p cs' (.slice D.Kx 0 D.ck) (.slice D.N nd'.length D.c) [] nd'
    rw [hN, hnl]; exact HS.T
  · show Cs cs' V (w.heap.size + 1) 0 0 (.slice D.Kx 0 D.ck) (.slice D.N nd'.length D.c) q' 1 0 0
    rw [hN, hnl]; exact HS.C
  · exact skip_new nd' hnl HZ
  · exact Nat.le_trans (by show nd'.length ≤ D.nd.length; omega) h.ndb
  · intro k hk
    rcases hown' k hk with q | q
    · exact h.far k q
    · exact Nat.le_trans h.T.room q

end Go.Proofs.YtdkkkikcigjlhaaGreatDoor.Md

namespace Go.Proofs.YtdkkkikcigjlhaaGreatDoor.Md
open Go.RowKit Go.Proofs.YtdkkkikcigjlhaaGreatDoor.Con Go.Proofs.YtdkkkikcigjlhaaGreatDoor.Run Go.Proofs.YtdkkkikcigjlhaaGreatDoorW.PrintWords Go.Proofs.YtdkkkikcigjlhaaGreatDoorW.PrintMore Go.Proofs.YtdkkkikcigjlhaaGreatDoor.Cmp Go.Sort Go.RwLone Go.Proofs.YtdkkkikcigjlhaaGreatDoor.PFnMemMap

def sumO (l : List S77) : Nat := (l.map fun x => x.f1.length + x.f2.length).sum
theorem sumO_snoc (l : List S77) (x : S77) : sumO (l ++ [x]) = sumO l + (x.f1.length + x.f2.length) := by simp [sumO]

theorem op_at {w : World} {ok : Nat → Prop} {A : Option Addr} {n : Nat} {l : List S77} (h : Kd.F k77 w ok A n l) {j : Nat} (hj : j < n) {x : S77} (hx : l.getD j (⟨0, [], []⟩ : S77) = x) :
    ∃ ad A1 c1 A2 c2, A = some ad ∧ w.cell? (ad.add (j * 3)) = some (.int .i64 x.f0) ∧ w.cell? ⟨(ad.add (j * 3)).block, (ad.add (j * 3)).off + 1, none⟩ = some (.slice A1 x.f1.length c1) ∧ w.cell? ⟨(ad.add (j * 3)).block, (ad.add (j * 3)).off + 2, none⟩ = some (.slice A2 x.f2.length c2) ∧ Kd.F (Kd.int .u8) w ok A1 x.f1.length x.f1 ∧ Kd.F (Kd.int .u8) w ok A2 x.f2.length x.f2 ∧ x.f1.length ≤ c1 ∧ x.f2.length ≤ c2 := by
  obtain ⟨ad, cs', rfl, hcl, hK, hcell, hokb⟩ := Kd.F_get h (⟨0, [], []⟩ : S77) (j : Int) (Int.natCast_nonneg _) (by omega)
  obtain ⟨A1, c1, A2, c2, rfl, hl1, hF1, hl2, hF2⟩ := k77_openF hK
  have r0 := hcell 0 _ rfl
  have r1 := hcell 1 _ rfl
  have r2 := hcell 2 _ rfl
  rw [Int.toNat_natCast, hx] at r0 r1 r2 hF1 hF2 hl1 hl2
  have e3 : j * k77.sz + 1 = j * 3 + 1 := rfl
  have e4 : j * k77.sz + 2 = j * 3 + 2 := rfl
  rw [e3, add_field ad (j * 3) 1 (by omega)] at r1
  rw [e4, add_field ad (j * 3) 2 (by omega)] at r2
  exact ⟨ad, A1, c1, A2, c2, rfl, r0, r1, r2, hF1, hF2, hl1, hl2⟩

def fewO (l : List S77) : Bool := decide (wrap64 ((sumO l : Nat) : Int) ≤ 1048576 ∧ ((l.length : Nat) : Int) ≤ 4096)

set_option maxHeartbeats 6400000 in
set_option maxRecDepth 100000 in
theorem fewOps_calls {w : World} {ok : Nat → Prop} {A : Option Addr} {n c : Nat} {l : List S77} (hn : l.length = n) (hL : Kd.F k77 w ok A n l) (b1 : n ≤ 2147483647) :
    Calls Tryz.prog 39 #[.slice A n c] w fun e w' => e = .returned (.bool (fewO l)) ∧ Below w.heap.size w w' := by
  have HL := Lib.hid (And.intro hL (And.intro hn b1))
  have hb0 := below_alloc (Below.refl w.heap.size w) (.cells #[.int .i64 0, .int .i64 0] 86)
  have hk0 := blk_new w (.cells #[.int .i64 0, .int .i64 0] 86)
  have HBD : Hid (BndAt (w.alloc (.cells #[.int .i64 0, .int .i64 0] 86)) w.heap.size 0 0) := Lib.hid (by
    unfold BndAt
    rw [show wrap64 ((0 : Nat) : Int) = 0 by unfold wrap64; omega]
    exact hk0)
  have HBB := Lib.hid hb0
  clear hL hn b1 hb0 hk0
  go_enter Tryz.func39, Tryz.ntmps39
  go_wp2
  generalize w.alloc (.cells #[.int .i64 0, .int .i64 0] 86) = w1 at *
  go_loopg [4] n (fun k v4 w' => ∃ i : Nat, v4 = .int .i64 (i : Int) ∧ Hid (i ≤ n ∧ n ≤ i + k) ∧ Hid (BndAt w' w.heap.size (sumO (l.take i)) i) ∧ Hid (Below w.heap.size w w'))
  case atStart => exact ⟨0, rfl, Lib.hid ⟨by omega, by omega⟩, HBD, HBB⟩
  case round =>
    obtain ⟨i, rfl, HI, HK, HB⟩ := hrel
    by_cases hi : i < n
    · obtain ⟨z0, x0, z1⟩ := few_step hi HL.out.2.2
      obtain ⟨x, hx⟩ : ∃ x, l.getD i (⟨0, [], []⟩ : S77) = x := ⟨_, rfl⟩
      obtain ⟨ad, K, kc, V, vc, hA, s0, s1, s2, -, -, -, -⟩ := op_at (Kd.F_below HL.out.1 HB.out) hi hx
      subst hA
      have htk := sp_take (l := l) (i := i) (by rw [HL.out.2.1]; exact hi) (⟨0, [], []⟩ : S77)
      rw [hx] at htk
      have hsn : sumO (l.take (i + 1)) = sumO (l.take i) + (x.f1.length + x.f2.length) := by rw [htk, sumO_snoc]
      have HSN := Lib.hid hsn
      have HII := Lib.hid hi
      clear hx htk hsn s0
      generalize x.f1.length = kn at *
      generalize x.f2.length = vn at *
      go_upto_region 5 with (fail)
      refine still_tail 10 (by kernel_rfl) (by kernel_rfl) ?_
      intro W3 hW3
      have s1 := drew_cell hW3 s1
      have s2 := drew_cell hW3 s2
      have k3 : Hid (BndAt W3 w.heap.size (sumO (l.take i)) i) := by rw [hW3]; exact Lib.hid HK.out
      have g3 : Hid (Below w.heap.size w W3) := by rw [hW3]; exact Lib.hid HB.out.drew
      clear hW3
      simp only [List.take_succ_cons, List.take_zero, List.drop_succ_cons, List.drop_zero]
      repeat still_step
      refine wpStill_nil ?_
      have hA := Lib.hid (k3.out.two (K := K) (V := V) (kn := kn) (vn := vn) (kc := kc) (vc := vc) (by have := HL.out.2.2; have := HII.out; omega))
      go_wp2_with (go_at_call 44; (with_reducible refine hA.out.mono ?_); rintro e w4 ⟨rfl, hk4, hf4⟩)
      go_roundg (gk - 1)
      case measure => have := HI.out; have := HII.out; omega
      case rel =>
        refine ⟨i + 1, (by first | rfl | exact congrArg _ x0), Lib.hid (by have := HI.out; have := HII.out; omega), Lib.hid ?_, Lib.hid (sp_below_fr g3.out g3.out.size hf4.out (fun k hk => by rw [hk]; exact Nat.le_refl _))⟩
        rw [HSN.out]
        exact hk4.out
    · have z0 : decide ((i : Int) < (n : Int)) = false := decide_eq_false (by omega)
      have hin : i = n := by have := HI.out; omega
      have hk := HK.out
      rw [hin, ← HL.out.2.1, List.take_length] at hk
      have HWI : Hid (Calls Tryz.prog 45 #[.pointer (some ⟨w.heap.size, 0, none⟩)] wr fun e w' => e = .returned (.bool (fewO l)) ∧ wr = w') := Lib.hid ((within_calls hk).mono (by
        rintro e w' ⟨rfl, rfl⟩
        exact ⟨rfl, rfl⟩))
      clear hin hk
      go_wp2_with (go_at_call 45; (with_reducible refine HWI.out.mono ?_); rintro e w4 ⟨rfl, rfl⟩)
      go_ret
      exact ⟨rfl, HB.out⟩

end Go.Proofs.YtdkkkikcigjlhaaGreatDoor.Md
