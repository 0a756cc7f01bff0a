/- impl's ArrayWalk. The laws' walkAwake: its fixed call answers. The law FnArrayWalk, walked: it answers true, whatever the input. Arguments opened: what a value that reads as data says in the words of Kd (kinds of values), type by type. The walks' arguments, read as data; FnArrayWalk's walk out of them. The reference's range, as printed: what it tells. The law FnMemWalk, walked: it answers true, whatever the input. -/
import Derived.Test.YtdkkkikcigjlhaaGreatDoorMb17
import Derived.Test.YtdkkkikcigjlhaaGreatDoorMb16
import Derived.Test.YtdkkkikcigjlhaaGreatDoorMb12
import Derived.Test.YtdkkkikcigjlhaaGreatDoorMb15
import Derived.Lib.SlBytesConst
import Derived.Test.YtdkkkikcigjlhaaGreatDoorWMore
import Derived.Deep.Slices
import Derived.WalkKit
import Derived.Below
namespace Go.Proofs.YtdkkkikcigjlhaaGreatDoor.Md
open Go.RowKit Go.Proofs.YtdkkkikcigjlhaaGreatDoor.Con Go.Proofs.YtdkkkikcigjlhaaGreatDoor.Run Go.Proofs.YtdkkkikcigjlhaaGreatDoorW.PrintWords Go.Proofs.YtdkkkikcigjlhaaGreatDoorW.PrintMore Go.Proofs.YtdkkkikcigjlhaaGreatDoor.Cmp Go.Sort Go.RwLone Go.Proofs.YtdkkkikcigjlhaaGreatDoor.PFnMemMap
set_option linter.unusedVariables false
set_option linter.unusedSimpArgs false

/-- what ArrayWalk tells -/
def AwTold (f : List Int → List Int → Int) (l : List S44) (ms : List S104) (w : World) (e : Ending) (w' : World) : Prop :=
  Below w.heap.size w w' ∧ ((risesL f (kvS l) = true ∧ ∃ v, e = .returned (.tuple #[v, .bool true]) ∧ Kd.N k121 121 w' w.heap.size (fun k => w.heap.size ≤ k) v (atsL f (kvS l) (-1) ms)) ∨ (risesL f (kvS l) = false ∧ e = .returned (.tuple #[.slice none 0 0, .bool false])))

theorem kvS_all {l : List S44} (h : ∀ x ∈ l, x.f0.length ≤ 4294967296 ∧ x.f1.length ≤ 4294967296) : ∀ x ∈ kvS l, x.1.length ≤ 4294967296 ∧ x.2.length ≤ 4294967296 := by
  intro x hx
  obtain ⟨y, hy, rfl⟩ := List.mem_map.1 hx
  exact h y hy

set_option maxHeartbeats 6400000 in
set_option maxRecDepth 100000 in
theorem ArrayWalk_calls {w : World} {o : Int} {ok okm : Nat → Prop} {A Am : Option Addr} {c cm : Nat} {l : List S44} {ms : List S104} {f : List Int → List Int → Int}
    (hV : Cmpr (ordV o) f) (hA : Kd.F k44 w ok A l.length l) (hc : l.length ≤ c) (hb : ∀ x ∈ l, Byt x.f0) (hl : l.length ≤ 4294967296) (hx : ∀ x ∈ l, x.f0.length ≤ 4294967296 ∧ x.f1.length ≤ 4294967296)
    (hM : Kd.F k104 w okm Am ms.length ms) (hbM : ∀ m ∈ ms, Byt m.f1) (hokm : ∀ k, okm k → ¬ w.heap.size ≤ k) (hlM : ms.length ≤ 4294967296) :
    Calls Tryz.prog 24 #[.int .i64 o, .slice A l.length c, .slice Am ms.length cm] w fun e w' => AwTold f l ms w e w' := by
  obtain ⟨T, hT⟩ : ∃ T, ordV o = .iface T (.agg #[]) := by
    unfold ordV
    split
    · exact ⟨_, rfl⟩
    · split
      · exact ⟨_, rfl⟩
      · exact ⟨_, rfl⟩
  have HT := Lib.hid hT
  rw [hT] at hV
  have HV := Lib.hid hV
  clear hT
  have HA := Lib.hid (And.intro hA (And.intro hc (And.intro hb (And.intro hl hx))))
  have HM := Lib.hid (And.intro hM (And.intro hbM (And.intro hokm hlM)))
  clear hV hA hc hb hl hx hM hbM hokm hlM
  cases hr : risesL f (kvS l) with
  | false =>
    have HR := Lib.hid hr
    clear hr
    go_enter Tryz.func24, Tryz.ntmps24
    go_wp2_with (first
      | (go_at_call 58; (with_reducible refine (orderOf_calls _ _).mono ?_); rintro e w1 ⟨rfl, rfl⟩; rw [HT.out])
      | (go_at_call 60; (with_reducible refine (copied_calls (Kd.F_now HA.out.1) HA.out.2.1 HA.out.2.2.2.1 HA.out.2.2.2.2).mono ?_); rintro e w1 ⟨A1, c1, rfl, hc1, hF1, hb1⟩)
      | (go_at_call 59; (with_reducible refine (rising_calls HV.out rfl HA.out.2.2.2.1 hF1 HA.out.2.2.1).mono ?_); rintro e w2 ⟨rfl, hb2⟩; rw [HR.out]))
    go_ret2
    exact ⟨hb1.trans (hb2.mono hb1.size), .inr ⟨HR.out, rfl⟩⟩
  | true =>
    have HR := Lib.hid hr
    clear hr
    go_enter Tryz.func24, Tryz.ntmps24
    go_upto_region 4 with (first
      | (go_at_call 58; (with_reducible refine (orderOf_calls _ _).mono ?_); rintro e w1 ⟨rfl, rfl⟩; rw [HT.out])
      | (go_at_call 60; (with_reducible refine (copied_calls (Kd.F_now HA.out.1) HA.out.2.1 HA.out.2.2.2.1 HA.out.2.2.2.2).mono ?_); rintro e w1 ⟨A1, c1, rfl, hc1, hF1, hb1⟩)
      | (go_at_call 59; (with_reducible refine (rising_calls HV.out rfl HA.out.2.2.2.1 hF1 HA.out.2.2.1).mono ?_); rintro e w2 ⟨rfl, hb2⟩; rw [HR.out]))
    have HB2 := Lib.hid (hb1.trans (hb2.mono hb1.size))
    clear hb1 hb2 hF1 hc1
    go_wp2_with (first
      | (go_at_call 60; (with_reducible refine (copied_calls (Kd.F_now (Kd.F_below HA.out.1 HB2.out)) HA.out.2.1 HA.out.2.2.2.1 HA.out.2.2.2.2).mono ?_); rintro e w3 ⟨A2, c2, rfl, hc2, hF2, hb3⟩)
      | (go_at_call 62; (with_reducible refine (NewArrayIterator_calls _ _ _ _ rfl).mono ?_); rintro e w4 ⟨rfl, rfl⟩))
    have HB3 := Lib.hid (HB2.out.trans (hb3.mono HB2.out.size))
    have HST := Lib.hid (ArSt.fresh (V := .iface T (.agg #[])) (c := c2) hF2 rfl (fun k hk => hk.2))
    have hb4 := HB3.out.trans ((below_alloc (Below.refl w3.heap.size w3) (.cells (arCells (arI (.iface T (.agg #[])) A2 l.length c2) (-1) (-1) (.slice none 0 0) (.slice none 0 0)) 167)).mono HB3.out.size)
    have HB4 := Lib.hid hb4
    have HSZ := Lib.hid (World.size_alloc w3 (.cells (arCells (arI (.iface T (.agg #[])) A2 l.length c2) (-1) (-1) (.slice none 0 0) (.slice none 0 0)) 167))
    simp only [arI, arrV] at HST HB4 HSZ
    have HW23 := Lib.hid (And.intro HB2.out.size hb3.size)
    clear hb4 hb3 hF2
    generalize w3.alloc (.cells (arCells (.iface 114 (.agg #[.iface T (.agg #[]), .slice A2 l.length c2])) (-1) (-1) (.slice none 0 0) (.slice none 0 0)) 167) = w4 at *
    go_at_call 61
    refine (walk_calls (arr_iter HV.out rfl HA.out.2.2.2.1 HA.out.2.2.1) HST.out (Kd.F_below HM.out.1 HB4.out) HM.out.2.1 (fun k hk _ q => by
      have h1 := HM.out.2.2.1 k hk
      have h2 := HW23.out
      rcases q with q | q
      · omega
      · omega) (fun k hk => by have := HM.out.2.2.1 k hk; have := HB4.out.size; omega) (kvS_all HA.out.2.2.2.2) HM.out.2.2.2).mono ?_
    rintro e w5 ⟨v, F', rfl, hN, hMv⟩
    go_wp2
    go_ret2
    refine ⟨?_, .inl ⟨HR.out, v, rfl, ?_⟩⟩
    · exact below_fr HB4.out HB4.out.size hMv.fr (fun k hk => by
        have h2 := HW23.out
        rcases hk with hk | hk
        · omega
        · omega)
    · exact N_low (Kd.N_mono hN (ok' := fun k => w.heap.size ≤ k) (fun k hk => Nat.le_trans HB4.out.size hk.1)) HB4.out.size

end Go.Proofs.YtdkkkikcigjlhaaGreatDoor.Md

namespace Go.Proofs.YtdkkkikcigjlhaaGreatDoor.Md
open Go.RowKit Go.Proofs.YtdkkkikcigjlhaaGreatDoor.Con Go.Proofs.YtdkkkikcigjlhaaGreatDoor.Run Go.Proofs.YtdkkkikcigjlhaaGreatDoorW.PrintWords Go.Proofs.YtdkkkikcigjlhaaGreatDoorW.PrintMore Go.Proofs.YtdkkkikcigjlhaaGreatDoor.Cmp Go.Sort Go.RwLone Go.Proofs.YtdkkkikcigjlhaaGreatDoor.PFnMemMap
set_option linter.unusedVariables false
set_option linter.unusedSimpArgs false

theorem cmpr_ord {o : Int} (h : o = 0 ∨ o = 1 ∨ o = 2) : Cmpr (ordV o) (cmpO o) := by
  rcases h with rfl | rfl | rfl
  · exact cmpr_bytes
  · exact cmpr_falling
  · exact cmpr_shorter

theorem lit_rises : risesL (cmpO 0) (kvS litL) = true := by decide
theorem lit_range : ((putsL (cmpO 0) litL).filter fun x => over (cmpO 0) (optL false []) x.1 && under (cmpO 0) (optL false []) x.1) = kvC (asC litL) := by decide

abbrev mvA : List S104 := [⟨1, []⟩, ⟨3, []⟩]
abbrev mvB : List S104 := [⟨2, []⟩]
abbrev litA (W : World) : World := W.alloc (.cells #[.int .i64 1, .slice none 0 0, .int .i64 3, .slice none 0 0] 104)
abbrev litB (W : World) : World := W.alloc (.cells #[.int .i64 2, .slice none 0 0] 104)

theorem litA_below (W : World) : Below W.heap.size W (litA W) := below_alloc (Below.refl _ _) _
theorem litB_below (W : World) : Below W.heap.size W (litB W) := below_alloc (Below.refl _ _) _
theorem lit_len : ∀ x ∈ litL, x.f0.length ≤ 4294967296 ∧ x.f1.length ≤ 4294967296 := by decide
theorem lit_byt : ∀ x ∈ litL, Byt x.f0 ∧ Byt x.f1 := by
  intro x hx
  simp only [List.mem_cons, List.not_mem_nil, or_false] at hx
  rcases hx with rfl | rfl
  · exact ⟨fun z hz => by simp at hz; omega, fun z hz => by simp at hz; omega⟩
  · exact ⟨fun z hz => by simp at hz; omega, fun z hz => by simp at hz⟩
theorem mvA_byt : ∀ m ∈ mvA, Byt m.f1 := by
  intro x hx
  simp only [List.mem_cons, List.not_mem_nil, or_false] at hx
  rcases hx with rfl | rfl <;> exact fun z hz => by simp at hz
theorem mvB_byt : ∀ m ∈ mvB, Byt m.f1 := by
  intro x hx
  simp only [List.mem_cons, List.not_mem_nil, or_false] at hx
  rcases hx with rfl
  exact fun z hz => by simp at hz
theorem byt_nil : Byt [] := fun z hz => by cases hz

/-- what the fixed walks tell -/
def LitTold (n : Nat) (ms : List S104) (W : World) (b : Bool) (e : Ending) (w' : World) : Prop :=
  ∃ A c, e = .returned (if b then .tuple #[.slice A n c, .bool true] else .slice A n c) ∧ Hid (Kd.F k121 w' (fun k => W.heap.size ≤ k) A n (atsL (cmpO 0) (kvC (asC litL)) (-1) ms)) ∧ Hid (Below W.heap.size W w')

theorem lit_AW {W : World} {ok : Nat → Prop} {a : Addr} (h : Kd.F k44 W ok (some a) 2 litL) :
    Calls Tryz.prog 24 #[.int .i64 0, .slice (some a) 2 2, .slice (some ⟨W.heap.size, 0, none⟩) 2 2] (litA W) fun e w' => LitTold 2 mvA W true e w' := by
  have hb := litA_below W
  have hs : (litA W).heap.size = W.heap.size + 1 := World.size_alloc _ _
  refine (ArrayWalk_calls (o := 0) (f := cmpO 0) (l := litL) (ms := mvA) (A := some a) (c := 2) (cm := 2) (cmpr_ord (.inl rfl)) (Kd.F_below h hb) (by decide) (fun x hx => (lit_byt x hx).1) (by decide) lit_len (mv2_F W 1 3) mvA_byt (fun k hk q => by omega) (by decide)).mono ?_
  rintro e w' ⟨hbl, hres⟩
  rcases hres with ⟨-, v, rfl, hN⟩ | ⟨hr, -⟩
  · obtain ⟨A, c, rfl⟩ := Kd.N_slice hN
    have hl : (atsL (cmpO 0) (kvS litL) (-1) mvA).length = 2 := by rw [atsL_len]; rfl
    rw [hl] at hN ⊢
    exact ⟨A, c, rfl, Lib.hid (Kd.F_mono (Kd.N_F hN) (fun k hk => by rw [hs] at hk; omega)), Lib.hid (hb.trans (hbl.mono hb.size))⟩
  · rw [lit_rises] at hr
    cases hr

theorem lit_MW {W : World} {ok : Nat → Prop} {a : Addr} (h : Kd.F k44 W ok (some a) 2 litL) (hok : ∀ k, ok k → k < W.heap.size) :
    Calls Tryz.prog 33 #[.int .i64 0, .slice (some a) 2 2, .agg #[.bool false, .bool false, .slice none 0 0, .slice none 0 0], .slice (some ⟨W.heap.size, 0, none⟩) 1 1] (litB W) fun e w' => LitTold 1 mvB W false e w' := by
  have hb := litB_below W
  have hs : (litB W).heap.size = W.heap.size + 1 := World.size_alloc _ _
  have hn : Kd.C (Kd.int .u8) (litB W) none ([] : List Int).length [] := Kd.F_now (Kd.F_nil _ _ (fun _ => True))
  refine (MemWalk_calls (o := 0) (f := cmpO 0) (l := litL) (ms := mvB) (A := some a) (c := 2) (cm := 1) (b1 := false) (b2 := false) (st := []) (lim := []) (cs := 0) (cl := 0) (cmpr_ord (.inl rfl)) (Kd.F_below h hb) lit_byt (fun k hk => by have := hok k hk; rw [hs]; omega) (by decide) (by decide) hn hn byt_nil byt_nil (by decide) (by decide) (mv1_F W 2) mvB_byt (fun k hk q => by omega) (by decide) lit_len).mono ?_
  rintro e w' ⟨v, rfl, hN, hbl⟩
  rw [lit_range] at hN
  obtain ⟨A, c, rfl⟩ := Kd.N_slice hN
  have hl : (atsL (cmpO 0) (kvC (asC litL)) (-1) mvB).length = 1 := by rw [atsL_len]; rfl
  rw [hl] at hN ⊢
  exact ⟨A, c, rfl, Lib.hid (Kd.F_mono (Kd.N_F hN) (fun k hk => by rw [hs] at hk; omega)), Lib.hid (hb.trans (hbl.mono hb.size))⟩

/-- the pairs, as the reference has them -/
def PrLit (ok : Nat → Prop) (W : World) (e : Ending) (w' : World) : Prop := ∃ A c, e = .returned (.slice A 2 c) ∧ 2 ≤ c ∧ Hid (Kd.F k36 w' (fun k => ok k ∨ W.heap.size ≤ k) A 2 (asC litL)) ∧ Hid (Below W.heap.size W w')

theorem lit_pairs {W : World} {ok : Nat → Prop} {a : Addr} (h : Kd.F k44 W ok (some a) 2 litL) :
    Calls Tryz.prog 26 #[.slice (some a) 2 2] W fun e w' => PrLit ok W e w' := by
  refine (pairs_calls (l := litL) (c := 2) h (by decide) (by decide)).mono ?_
  rintro e w' ⟨A, c, rfl, h1, h2, h3⟩
  exact ⟨A, c, rfl, h1, Lib.hid h2, Lib.hid h3⟩

theorem asC_lit_len : ∀ x ∈ asC litL, x.f0.length ≤ 4294967296 := by decide

theorem lit_walkedA {W : World} {ok okg : Nat → Prop} {A Ag : Option Addr} {c cg : Nat} (h : Kd.F k36 W ok A 2 (asC litL)) (hc : 2 ≤ c) (hG : Kd.F k121 W okg Ag 2 (atsL (cmpO 0) (kvC (asC litL)) (-1) mvA)) :
    Calls Tryz.prog 27 #[.int .i64 0, .slice A 2 c, .slice (some ⟨W.heap.size, 0, none⟩) 2 2, .slice Ag 2 cg] (litA W) fun e w' => e = .returned (.bool true) ∧ Hid (Below W.heap.size W w') := by
  have hb := litA_below W
  refine (walked_calls (l := asC litL) (ms := mvA) 0 (Kd.F_below h hb) rfl hc asC_lit_len (by decide) (mv2_F W 1 3) rfl (by decide) (by decide) (Kd.F_below hG hb)).mono ?_
  rintro e w' ⟨rfl, hbl⟩
  exact ⟨rfl, Lib.hid (hb.trans (hbl.mono hb.size))⟩

theorem lit_walkedB {W : World} {ok okg : Nat → Prop} {A Ag : Option Addr} {c cg : Nat} (h : Kd.F k36 W ok A 2 (asC litL)) (hc : 2 ≤ c) (hG : Kd.F k121 W okg Ag 1 (atsL (cmpO 0) (kvC (asC litL)) (-1) mvB)) :
    Calls Tryz.prog 27 #[.int .i64 0, .slice A 2 c, .slice (some ⟨W.heap.size, 0, none⟩) 1 1, .slice Ag 1 cg] (litB W) fun e w' => e = .returned (.bool true) ∧ Hid (Below W.heap.size W w') := by
  have hb := litB_below W
  refine (walked_calls (l := asC litL) (ms := mvB) 0 (Kd.F_below h hb) rfl hc asC_lit_len (by decide) (mv1_F W 2) rfl (by decide) (by decide) (Kd.F_below hG hb)).mono ?_
  rintro e w' ⟨rfl, hbl⟩
  exact ⟨rfl, Lib.hid (hb.trans (hbl.mono hb.size))⟩

set_option maxHeartbeats 6400000 in
set_option maxRecDepth 100000 in
theorem walkAwake_calls {w : World} : Calls Tryz.prog 28 #[] w fun e w' => e = .returned (.bool true) ∧ Below w.heap.size w w' := by
  have kc := fun (w : World) (C : Array Value) (n c : Nat) => Lib.run_convert_bytes_const (P := Tryz.prog) w 25 5 C n c Tryz.underlying25 Tryz.underlying5
  have kc2 := kc (w.alloc (.cells #[.int .u8 97] 5 (1, 2))) #[.int .u8 49] 1 1
  have kc3 := kc ((w.alloc (.cells #[.int .u8 97] 5 (1, 2))).alloc (.cells #[.int .u8 49] 5 (1, 2))) #[.int .u8 98] 1 1
  simp only [World.size_alloc] at kc2 kc3
  have HF0 := Lib.hid (lit_F w)
  have HB0 := Lib.hid (lit_below w).1
  have HS0 := Lib.hid (blk_lt (lit_below w).2.2.2.2)
  go_enter Tryz.func28, Tryz.ntmps28
  go_upto_region 2 with (fail)
  clear kc kc2 kc3
  unfold litW litC at HF0 HB0 HS0
  generalize (((w.alloc (.cells #[.int .u8 97] 5 (1, 2))).alloc (.cells #[.int .u8 49] 5 (1, 2))).alloc (.cells #[.int .u8 98] 5 (1, 2))).alloc (.cells #[.slice (some ⟨w.heap.size, 0, none⟩) 1 1, .slice (some ⟨w.heap.size + 1, 0, none⟩) 1 1, .slice (some ⟨w.heap.size + 1 + 1, 0, none⟩) 1 1, .slice none 0 0] 44) = w1 at *
  go_wp2_with (first
    | (go_at_call 24; (with_reducible refine (lit_AW HF0.out).mono ?_); rintro e w2 ⟨A2, c2, rfl, g2, b2⟩; have HF2 := Lib.hid (Kd.F_below HF0.out b2.out); have HB2 := Lib.hid (HB0.out.trans (b2.out.mono HB0.out.size)); simp only [if_true])
    | (go_at_call 33; (with_reducible refine (lit_MW HF2.out (fun k hk => Nat.lt_of_lt_of_le hk.2 b2.out.size)).mono ?_); rintro e w3 ⟨A3, c3, rfl, g3, b3⟩; have HF3 := Lib.hid (Kd.F_below HF2.out b3.out); have HB3 := Lib.hid (HB2.out.trans (b3.out.mono HB2.out.size)); simp only [Bool.false_eq_true, if_false])
    | (go_at_call 26; (with_reducible refine (lit_pairs HF3.out).mono ?_); rintro e w4 ⟨A4, c4, rfl, hc4, g4, b4⟩; have HB4 := Lib.hid (HB3.out.trans (b4.out.mono HB3.out.size)); have HF4 := Lib.hid (Kd.F_below HF3.out b4.out); have G2 := Lib.hid (Kd.F_below (Kd.F_below g2.out b3.out) b4.out))
    | (go_at_call 27; (with_reducible refine (lit_walkedA g4.out hc4 G2.out).mono ?_); rintro e w5 ⟨rfl, b5⟩; have HB5 := Lib.hid (HB4.out.trans (b5.out.mono HB4.out.size)); have HF5 := Lib.hid (Kd.F_below HF4.out b5.out))
    | (go_at_call 26; (with_reducible refine (lit_pairs HF5.out).mono ?_); rintro e w6 ⟨A6, c6, rfl, hc6, g6, b6⟩; have HB6 := Lib.hid (HB5.out.trans (b6.out.mono HB5.out.size)); have G3 := Lib.hid (Kd.F_below (Kd.F_below (Kd.F_below g3.out b4.out) b5.out) b6.out))
    | (go_at_call 27; (with_reducible refine (lit_walkedB g6.out hc6 G3.out).mono ?_); rintro e w7 ⟨rfl, b7⟩; have HB7 := Lib.hid (HB6.out.trans (b7.out.mono HB6.out.size))))
  go_ret
  exact ⟨rfl, HB7.out⟩

end Go.Proofs.YtdkkkikcigjlhaaGreatDoor.Md

namespace Go.Proofs.YtdkkkikcigjlhaaGreatDoor.Md
open Go.RowKit Go.Proofs.YtdkkkikcigjlhaaGreatDoor.Con Go.Proofs.YtdkkkikcigjlhaaGreatDoor.Run Go.Proofs.YtdkkkikcigjlhaaGreatDoorW.PrintWords Go.Proofs.YtdkkkikcigjlhaaGreatDoorW.PrintMore Go.Proofs.YtdkkkikcigjlhaaGreatDoor.Cmp Go.Sort Go.RwLone Go.Proofs.YtdkkkikcigjlhaaGreatDoor.PFnMemMap
set_option linter.unusedVariables false
set_option linter.unusedSimpArgs false

theorem heap_k44 : Kd.Heap k44 := Kd.heap_iso _ (Kd.heap_pair (Kd.heap_slice 5 (Kd.heap_int .u8)) (Kd.heap_slice 5 (Kd.heap_int .u8)))
theorem heap_k104 : Kd.Heap k104 := Kd.heap_iso _ (Kd.heap_pair (Kd.heap_int .i64) (Kd.heap_slice 5 (Kd.heap_int .u8)))

theorem LL_F {w : World} {A : Option Addr} {n c : Nat} {l : List S44} (h : Kd.F k44 w (fun k => k < w.heap.size) A n l) (hn : l.length = n) (hc : n ≤ c) :
    Kd.F kLL (w.alloc (.cells #[.slice A n c] 38)) (fun k => k < w.heap.size + 1) (some ⟨w.heap.size, 0, none⟩) 1 [l] := by
  have hb := below_alloc (Below.refl w.heap.size w) (.cells #[.slice A n c] 38)
  have hk := blk_new w (.cells #[.slice A n c] 38)
  subst hn
  intro W' hW
  have h3 := (hW _ (Nat.lt_succ_self _) (blk_lt hk)).trans hk
  refine ⟨rfl, by decide, fun _ => ⟨_, rfl, fun j p hj => ?_⟩⟩
  rcases j with _ | j
  · simp only [List.getElem?_cons_zero, Option.some.injEq] at hj
    subst hj
    refine ⟨_, rfl, ⟨A, c, rfl, hc, Kd.F_now (Kd.F_step (Kd.F_below h hb) (fun k hk' hlt => hW k (Nat.lt_succ_of_lt hk') hlt))⟩, fun i u hu => ?_⟩
    have e : 0 * kLL.sz + i = i := by rw [Nat.zero_mul, Nat.zero_add]
    rw [e, add_in, cell_of_row _ _ i _ _ _ h3]
    simpa using hu
  · simp at hj

theorem ord3 (o0 : Int) : wrap64 ((IntKind.u64.wrap o0).tmod 3) = 0 ∨ wrap64 ((IntKind.u64.wrap o0).tmod 3) = 1 ∨ wrap64 ((IntKind.u64.wrap o0).tmod 3) = 2 := by
  have h : 0 ≤ IntKind.u64.wrap o0 := by
    show 0 ≤ o0 % (2 ^ 64 : Int)
    omega
  rw [Int.tmod_eq_emod_of_nonneg h]
  generalize IntKind.u64.wrap o0 = u at *
  unfold wrap64
  omega

theorem asC_all {l : List S44} {m : Nat} (h : ∀ x ∈ l, x.f0.length ≤ m ∧ x.f1.length ≤ m) : ∀ x ∈ asC l, x.f0.length ≤ m := by
  intro x hx
  obtain ⟨y, hy, rfl⟩ := List.mem_map.1 hx
  exact (h y hy).1

set_option maxHeartbeats 6400000 in
set_option maxRecDepth 100000 in
theorem arrayWalk_law {w : World} {A Am : Option Addr} {c cm : Nat} {l : List S44} {ms : List S104} (o0 : Int) (hA : Kd.C k44 w A l.length l) (hc : l.length ≤ c) (hb : ∀ x ∈ l, Byt x.f0 ∧ Byt x.f1) (hM : Kd.C k104 w Am ms.length ms) (hcm : ms.length ≤ cm) (hbM : ∀ m ∈ ms, Byt m.f1) :
    Calls Tryz.prog 4 #[.int .i64 o0, .slice A l.length c, .slice Am ms.length cm] w fun e w' => e = .returned (.bool true) ∧ Below w.heap.size w w' := by
  have HA := Lib.hid (And.intro (Kd.C_F heap_k44 hA) (And.intro hc hb))
  have HM := Lib.hid (And.intro (Kd.C_F heap_k104 hM) (And.intro hcm hbM))
  clear hA hc hb hM hcm hbM
  go_enter Tryz.func4, Tryz.ntmps4
  go_wp2_with fail
  refine (fits19_calls (Kd.F_now HA.out.1) HA.out.2.1).mono ?_
  rintro e w1 ⟨b, rfl, HB, hb1⟩
  have HB1 := Lib.hid hb1
  clear hb1
  cases b with
  | false =>
    go_wp2
    go_ret
    exact ⟨rfl, HB1.out⟩
  | true =>
    have hlx := HB.out rfl
    have HLX := Lib.hid hlx
    clear HB hlx
    go_wp2_with fail
    refine (fits22_calls (Kd.F_now (Kd.F_below HM.out.1 HB1.out)) HM.out.2.1).mono ?_
    rintro e w2 ⟨b, rfl, HB, hb2⟩
    have HB2 := Lib.hid (HB1.out.trans (hb2.mono HB1.out.size))
    clear hb2
    cases b with
    | false =>
      go_wp2
      go_ret
      exact ⟨rfl, HB2.out⟩
    | true =>
      have hmx := HB.out rfl
      have HMX := Lib.hid hmx
      clear HB hmx
      have HF2 := Lib.hid (LL_F (c := c) (Kd.F_mono (Kd.F_below HA.out.1 HB2.out) (fun k hk => Nat.lt_of_lt_of_le hk HB2.out.size)) rfl HA.out.2.1)
      have HS2 := Lib.hid (World.size_alloc w2 (.cells #[.slice A l.length c] 38))
      have HB3 := Lib.hid (HB2.out.trans ((below_alloc (Below.refl w2.heap.size w2) (.cells #[.slice A l.length c] 38)).mono HB2.out.size))
      go_wp2_with fail
      generalize w2.alloc (.cells #[.slice A l.length c] 38) = w3 at *
      refine (fewPairs_calls (LL := [l]) (ms := ms) rfl HF2.out (fun k hk => by have := HS2.out; omega) rfl (Kd.F_below HM.out.1 HB3.out) (fun k hk => Nat.lt_of_lt_of_le hk HB3.out.size) (by simp) (fun x hx => by rw [List.mem_singleton] at hx; rw [hx]; exact HLX.out.1) HMX.out.1).mono ?_
      rintro e w4 ⟨rfl, hb4⟩
      have HB4 := Lib.hid (HB3.out.trans (hb4.mono HB3.out.size))
      clear hb4
      cases few [l] ms with
      | false =>
        go_wp2
        go_ret
        exact ⟨rfl, HB4.out⟩
      | true =>
        go_wp2_with fail
        have ho := ord3 o0
        generalize wrap64 ((IntKind.u64.wrap o0).tmod 3) = o at *
        have HO := Lib.hid ho
        have HX := Lib.hid (show ∀ x ∈ l, x.f0.length ≤ 4294967296 ∧ x.f1.length ≤ 4294967296 from fun x hx => by have := HLX.out.2 x hx; omega)
        clear ho
        refine (ArrayWalk_calls (cmpr_ord HO.out) (Kd.F_below HA.out.1 HB4.out) HA.out.2.1 (fun x hx => (HA.out.2.2 x hx).1) (by have := HLX.out.1; omega) HX.out (Kd.F_below HM.out.1 HB4.out) HM.out.2.2 (fun k hk q => by have := HB4.out.size; omega) (by have := HMX.out.1; omega)).mono ?_
        rintro e w5 ⟨hb5, hres⟩
        have HB5 := Lib.hid (HB4.out.trans (hb5.mono HB4.out.size))
        clear hb5
        have hpr : ∀ W, Below w.heap.size w W → Hid (Calls Tryz.prog 26 #[.slice A l.length c] W fun e w' => PrTold (fun k => k < w.heap.size) l W e w') := fun W hW => Lib.hid (pairs_calls (Kd.F_below HA.out.1 hW) HA.out.2.1 (by have := HLX.out.1; omega))
        have HLL := Lib.hid (show l.length ≤ 4294967296 by have := HLX.out.1; omega)
        have HRI : ∀ (W : World) (okq : Nat → Prop) (A' : Option Addr) (c' : Nat), Kd.F k36 W okq A' l.length (asC l) → l.length ≤ c' → Hid (Calls Tryz.prog 25 #[.int .i64 o, .slice A' l.length c'] W fun e w' => e = .returned (.bool (risesL (cmpO o) (kvS l))) ∧ Below W.heap.size W w') := fun W okq A' c' h hc' => Lib.hid (by
          have := rises_calls o (Kd.F_now h) (asC_len l) hc' (asC_all HX.out |> fun f x hx => f x hx) HLL.out
          rw [asC_kv] at this
          exact this)
        rcases hres with ⟨hr, v, rfl, hN⟩ | ⟨hr, rfl⟩
        · obtain ⟨Ag, cg, rfl⟩ := Kd.N_slice hN
          rw [atsL_len] at hN ⊢
          rw [show kvS l = kvC (asC l) from (asC_kv l).symm] at hN
          have HG := Lib.hid (Kd.N_F hN)
          have HR := Lib.hid hr
          clear hr hN
          go_wp2_with (first
            | (go_at_call 26; (with_reducible refine (hpr _ HB5.out).out.mono ?_); rintro e w6 ⟨A6, c6, rfl, hc6, hF6, hb6⟩; have HB6 := Lib.hid (HB5.out.trans (hb6.mono HB5.out.size)))
            | (go_at_call 25; (with_reducible refine (HRI _ _ _ _ hF6 hc6).out.mono ?_); rintro e w7 ⟨rfl, hb7⟩; rw [HR.out]; have HB7 := Lib.hid (HB6.out.trans (hb7.mono HB6.out.size)))
            | (go_at_call 26; (with_reducible refine (hpr _ HB7.out).out.mono ?_); rintro e w8 ⟨A8, c8, rfl, hc8, hF8, hb8⟩; have HB8 := Lib.hid (HB7.out.trans (hb8.mono HB7.out.size)))
            | (go_at_call 27; (with_reducible refine (walked_calls (l := asC l) (ms := ms) o hF8 (asC_len l) hc8 (asC_all HX.out) HLL.out (Kd.F_below HM.out.1 HB8.out) rfl (by have := HMX.out.1; omega) (fun m hm => by have := HMX.out.2 m hm; omega) (Kd.F_below (Kd.F_below (Kd.F_below HG.out hb6) hb7) hb8)).mono ?_); rintro e w9 ⟨rfl, hb9⟩; have HB9 := Lib.hid (HB8.out.trans (hb9.mono HB8.out.size)))
            | (go_at_call 28; (with_reducible refine walkAwake_calls.mono ?_); rintro e w10 ⟨rfl, hb10⟩; have HB10 := Lib.hid (HB9.out.trans (hb10.mono HB9.out.size))))
          go_ret
          exact ⟨rfl, HB10.out⟩
        · have HR := Lib.hid hr
          clear hr
          go_wp2_with (first
            | (go_at_call 26; (with_reducible refine (hpr _ HB5.out).out.mono ?_); rintro e w6 ⟨A6, c6, rfl, hc6, hF6, hb6⟩; have HB6 := Lib.hid (HB5.out.trans (hb6.mono HB5.out.size)))
            | (go_at_call 25; (with_reducible refine (HRI _ _ _ _ hF6 hc6).out.mono ?_); rintro e w7 ⟨rfl, hb7⟩; rw [HR.out]; have HB7 := Lib.hid (HB6.out.trans (hb7.mono HB6.out.size))))
          go_ret
          exact ⟨rfl, HB7.out⟩

end Go.Proofs.YtdkkkikcigjlhaaGreatDoor.Md

namespace Go.Proofs.YtdkkkikcigjlhaaGreatDoor.Open
open Go.ChangeShapes Go.WideShapes Go.RowKit Go.Proofs.YtdkkkikcigjlhaaGreatDoorW.PrintWords
set_option linter.unusedVariables false
set_option linter.unusedSimpArgs false

/-- Whatever reads as data of the type is of the kind. -/
structure Opens (P : Program) (t : TypeId) {α : Type} (d : Kd α) (ok : α → Prop) : Prop where
  run : ∀ {H : Type} {enc : TypeId × Value → H} {w : World} {base : Nat} {spare : Nat → Bool} {fuel : Nat} {cs : List Value} {x : DataW H × List MemPlace}, DataW.trod enc P w base spare true fuel t cs = some x → ∃ a, d.K w a cs ∧ ok a

section
variable {P : Program} {t e : TypeId} {α β : Type} {d : Kd α} {ok : α → Prop}

theorem opens_int {k : IntKind} (ht : P.underlying t = some (.int k)) : Opens P t (Kd.int k) (fun n => (Lit.int k n).wf = true) := by
  refine ⟨fun hx => ?_⟩
  obtain ⟨n, h1, _, h3⟩ := DataW.trod_int ht hx
  exact ⟨n, h1, h3⟩

theorem opens_bool (ht : P.underlying t = some .bool) : Opens P t Kd.bool (fun _ => True) := by
  refine ⟨fun {H enc w base spare fuel cs x} hx => ?_⟩
  cases fuel with
  | zero => simp [DataW.trod] at hx
  | succ n =>
    unfold DataW.trod at hx
    rw [ht] at hx
    match cs, hx with
    | [.bool b], _ => exact ⟨b, rfl, trivial⟩

theorem opens_slice (ht : P.underlying t = some (.slice e)) (hs : P.cellsOf e = d.sz) (h : Opens P e d ok) : Opens P t (Kd.slice e d) (fun xs => ∀ x ∈ xs, ok x) := by
  refine ⟨fun {H enc w base spare fuel cs x} hx => ?_⟩
  rcases Go.Deep.open_slice ht hx with ⟨rfl, _⟩ | ⟨a, len, cap, m, n, D, Pl, rfl, _, hl, hm, hmm, _, hel⟩
  · exact ⟨[], ⟨none, 0, rfl, Nat.le_refl _, Kd.C_nil _ _⟩, fun x hx => by cases hx⟩
  · have hlm : len ≤ m := by rw [hmm]; split <;> omega
    have one : ∀ i, i < len → ∃ x, ok x ∧ ∃ c, c.length = d.sz ∧ d.K w x c ∧ ∀ j u, c[j]? = some u → w.cell? (a.add (i * d.sz + j)) = some u := fun i hi => by
      obtain ⟨cs', h1, h2⟩ := hel i (by omega)
      obtain ⟨x, h3, h4⟩ := h.run h2
      obtain ⟨_, h5, h6⟩ := World.cells?_some h1
      refine ⟨x, h4, cs', by rw [h5, hs], h3, fun j u hj => ?_⟩
      have hjl : j < P.cellsOf e := by
        rw [← h5]
        exact (List.getElem?_eq_some_iff.1 hj).1
      have := h6 j hjl
      rw [hj, Go.Deep.add_add, hs] at this
      exact this
    have all : ∃ xs : List α, xs.length = len ∧ (∀ x ∈ xs, ok x) ∧ ∀ j p, xs[j]? = some p → ∃ c, c.length = d.sz ∧ d.K w p c ∧ ∀ i u, c[i]? = some u → w.cell? (a.add (j * d.sz + i)) = some u := by
      rcases Nat.eq_zero_or_pos len with z | z
      · exact ⟨[], z.symm, (fun x hx => by cases hx), (fun j p hj => by simp at hj)⟩
      · obtain ⟨x0, _⟩ := one 0 z
        have : Inhabited α := ⟨x0⟩
        obtain ⟨f, hf⟩ := Go.Deep.choose_lt one
        refine ⟨(List.range len).map f, by simp, fun x hx => ?_, fun j p hj => ?_⟩
        · obtain ⟨i, hi, rfl⟩ := List.mem_map.1 hx
          exact (hf i (List.mem_range.1 hi)).1
        · have hjl : j < len := by
            have := (List.getElem?_eq_some_iff.1 hj).1
            simpa using this
          simp [hjl] at hj
          subst hj
          exact (hf j hjl).2
    obtain ⟨xs, hx1, hx2, hx3⟩ := all
    subst hx1
    refine ⟨xs, ⟨some a, cap, rfl, hl, rfl, ?_, fun _ => ⟨a, rfl, hx3⟩⟩, hx2⟩
    have : maxLen = 9223372036854775807 := rfl
    omega

/-- fields in line, from a place on -/
structure OpensFs (P : Program) (fs : List Field) (off : Nat) {α : Type} (d : Kd α) (ok : α → Prop) : Prop where
  run : ∀ {H : Type} {enc : TypeId × Value → H} {w : World} {base : Nat} {spare : Nat → Bool} {fuel : Nat} {cs : List Value}, cs.length = off + d.sz →
    (∀ f, f ∈ fs → ∃ y, DataW.trod enc P w base spare true fuel f.type ((cs.drop f.offset).take (P.cellsOf f.type)) = some y) → ∃ a, d.K w a (cs.drop off) ∧ ok a

theorem opensFs_last {f : Field} {off : Nat} (ho : f.offset = off) (hs : P.cellsOf f.type = d.sz) (h : Opens P f.type d ok) : OpensFs P [f] off d ok := by
  refine ⟨fun {H enc w base spare fuel cs} hl hf => ?_⟩
  obtain ⟨y, hy⟩ := hf f (by simp)
  rw [ho, hs, List.take_of_length_le (by simp; omega)] at hy
  exact h.run hy

theorem opensFs_cons {f : Field} {fs : List Field} {off : Nat} {d' : Kd β} {ok' : β → Prop} (ho : f.offset = off) (hs : P.cellsOf f.type = d.sz) (h : Opens P f.type d ok) (g : OpensFs P fs (off + d.sz) d' ok') :
    OpensFs P (f :: fs) off (Kd.pair d d') (fun x => ok x.1 ∧ ok' x.2) := by
  refine ⟨fun {H enc w base spare fuel cs} hl hf => ?_⟩
  obtain ⟨y, hy⟩ := hf f (by simp)
  rw [ho, hs] at hy
  obtain ⟨a, h1, h2⟩ := h.run hy
  have hsz : (Kd.pair d d').sz = d.sz + d'.sz := rfl
  obtain ⟨b, h3, h4⟩ := g.run (cs := cs) (by omega) (fun f' hf' => hf f' (by simp [hf']))
  refine ⟨(a, b), ⟨(cs.drop off).take d.sz, cs.drop (off + d.sz), ?_, h1, h3⟩, h2, h4⟩
  rw [← List.drop_drop, List.take_append_drop]

theorem opens_struct {fs : Array Field} (ht : P.underlying t = some (.struct fs)) (hc : P.cellsOf t = d.sz) (h : OpensFs P fs.toList 0 d ok) : Opens P t d ok := by
  refine ⟨fun {H enc w base spare fuel cs x} hx => ?_⟩
  obtain ⟨xs, n, _, _, hl, hlen, hf⟩ := DataW.trod_struct ht hx
  have := h.run (cs := cs) (by omega) (fun f hfm => by
    obtain ⟨i, hi⟩ := List.getElem?_of_mem hfm
    have hi' : fs[i]? = some f := by simpa using hi
    have hlt : i < xs.length := by
      rw [hlen]
      exact (Array.getElem?_eq_some_iff.1 hi').1
    exact ⟨xs[i], (hf i f hi').trans (List.getElem?_eq_getElem hlt)⟩)
  simpa using this

theorem opens_iso (h : Opens P t d ok) (f : β → α) (g : α → β) (hfg : ∀ a, f (g a) = a) : Opens P t (Kd.iso d f) (fun b => ok (f b)) := by
  refine ⟨fun hx => ?_⟩
  obtain ⟨a, h1, h2⟩ := h.run hx
  refine ⟨g a, ?_, ?_⟩
  · show d.K _ (f (g a)) _
    rw [hfg]; exact h1
  · show ok (f (g a))
    rw [hfg]; exact h2
end

end Go.Proofs.YtdkkkikcigjlhaaGreatDoor.Open

namespace Go.Proofs.YtdkkkikcigjlhaaGreatDoor.Md
open Go.RowKit Go.Proofs.YtdkkkikcigjlhaaGreatDoor.Open Go.Proofs.YtdkkkikcigjlhaaGreatDoorW.PrintWords Go.Proofs.YtdkkkikcigjlhaaGreatDoor.Cmp Go.Proofs.YtdkkkikcigjlhaaGreatDoor.PFnMemMap
set_option linter.unusedVariables false
set_option linter.unusedSimpArgs false

theorem r_byt {l : List Int} (h : ∀ x ∈ l, (Lit.int .u8 x).wf = true) : Byt l := fun x hx => by
  have := h x hx
  simp [Lit.wf, IntKind.min, IntKind.max, IntKind.bits, IntKind.signed] at this
  omega

theorem bytes_opens : Opens Tryz.prog 25 (Kd.slice 5 (Kd.int .u8)) (fun l => ∀ z ∈ l, (Lit.int .u8 z).wf = true) := opens_slice Tryz.underlying25 (by kernel_rfl) (opens_int Tryz.underlying5)

abbrev U8ok (l : List Int) : Prop := ∀ z ∈ l, (Lit.int .u8 z).wf = true

set_option maxRecDepth 100000 in
theorem kv_pair : Opens Tryz.prog 44 (Kd.pair (Kd.slice 5 (Kd.int .u8)) (Kd.slice 5 (Kd.int .u8))) (fun x => U8ok x.1 ∧ U8ok x.2) :=
  (opens_struct (ok := _) Tryz.underlying44 (by kernel_rfl) (opensFs_cons (ok := U8ok) (ok' := U8ok) (d := Kd.slice 5 (Kd.int .u8)) (d' := Kd.slice 5 (Kd.int .u8)) rfl (by kernel_rfl) bytes_opens (opensFs_last rfl (by kernel_rfl) bytes_opens)))
theorem kv_opens : Opens Tryz.prog 44 k44 (fun x => (∀ z ∈ x.f0, (Lit.int .u8 z).wf = true) ∧ (∀ z ∈ x.f1, (Lit.int .u8 z).wf = true)) :=
  opens_iso kv_pair (fun x : S44 => (x.f0, x.f1)) (fun a => ⟨a.1, a.2⟩) (fun _ => rfl)

set_option maxRecDepth 100000 in
theorem mv_pair : Opens Tryz.prog 104 (Kd.pair (Kd.int .i64) (Kd.slice 5 (Kd.int .u8))) (fun x => (Lit.int .i64 x.1).wf = true ∧ U8ok x.2) :=
  (opens_struct (ok := _) Tryz.underlying104 (by kernel_rfl) (opensFs_cons (ok := fun n => (Lit.int .i64 n).wf = true) (ok' := U8ok) (d := Kd.int .i64) (d' := Kd.slice 5 (Kd.int .u8)) rfl (by kernel_rfl) (opens_int Tryz.underlying3) (opensFs_last rfl (by kernel_rfl) bytes_opens)))
theorem mv_opens : Opens Tryz.prog 104 k104 (fun x => (Lit.int .i64 x.f0).wf = true ∧ (∀ z ∈ x.f1, (Lit.int .u8 z).wf = true)) :=
  opens_iso mv_pair (fun x : S104 => (x.f0, x.f1)) (fun a => ⟨a.1, a.2⟩) (fun _ => rfl)

abbrev KvsK : Kd (List S44) := Kd.slice 44 k44
abbrev MvsK : Kd (List S104) := Kd.slice 104 k104
theorem kvs_opens : Opens Tryz.prog 38 KvsK (fun xs => ∀ x ∈ xs, (∀ z ∈ x.f0, (Lit.int .u8 z).wf = true) ∧ (∀ z ∈ x.f1, (Lit.int .u8 z).wf = true)) := opens_slice Tryz.underlying38 (by kernel_rfl) kv_opens
theorem mvs_opens : Opens Tryz.prog 46 MvsK (fun xs => ∀ x ∈ xs, (Lit.int .i64 x.f0).wf = true ∧ (∀ z ∈ x.f1, (Lit.int .u8 z).wf = true)) := opens_slice Tryz.underlying46 (by kernel_rfl) mv_opens

theorem arrayWalk_row (o : Int) (A : Option Addr) (n c : Nat) (l : List S44) (Am : Option Addr) (nm cm : Nat) (ms : List S104) (w : World) (w0 : (Lit.int .i64 o).wf = true)
    (h : KvsK.K w l [.slice A n c]) (ho : ∀ x ∈ l, (∀ z ∈ x.f0, (Lit.int .u8 z).wf = true) ∧ (∀ z ∈ x.f1, (Lit.int .u8 z).wf = true)) (g : MvsK.K w ms [.slice Am nm cm]) (go : ∀ x ∈ ms, (Lit.int .i64 x.f0).wf = true ∧ (∀ z ∈ x.f1, (Lit.int .u8 z).wf = true)) :
    Calls Tryz.prog 4 #[.int .i64 o, .slice A n c, .slice Am nm cm] w fun x w' => x = .returned (.bool true) ∧ Below w.heap.size w w' := by
  obtain ⟨A', c', he, hc, hC⟩ := h
  injection he with he _
  injection he with e1 e2 e3
  subst e1 e2 e3
  obtain ⟨B', d', he, hd, hD⟩ := g
  injection he with he _
  injection he with e1 e2 e3
  subst e1 e2 e3
  exact arrayWalk_law o hC hc (fun x hx => ⟨r_byt (ho x hx).1, r_byt (ho x hx).2⟩) hD hd (fun m hm => r_byt (go m hm).2)

end Go.Proofs.YtdkkkikcigjlhaaGreatDoor.Md

namespace Go.Proofs.YtdkkkikcigjlhaaGreatDoor.Md
open Go.RowKit Go.Proofs.YtdkkkikcigjlhaaGreatDoor.Con Go.Proofs.YtdkkkikcigjlhaaGreatDoor.Run Go.Proofs.YtdkkkikcigjlhaaGreatDoorW.PrintWords Go.Proofs.YtdkkkikcigjlhaaGreatDoorW.PrintMore Go.Proofs.YtdkkkikcigjlhaaGreatDoor.Cmp Go.Sort Go.RwLone Go.Proofs.YtdkkkikcigjlhaaGreatDoor.PFnMemMap
set_option linter.unusedVariables false
set_option linter.unusedSimpArgs false

theorem range_l0 (o : Int) (l : List S36) (st lim : List Int) (b1 b2 : Bool) (hs : st.length ≤ 4294967296) (hm : lim.length ≤ 4294967296) (hx : ∀ x ∈ l, x.f0.length ≤ 4294967296) (hl : l.length ≤ 4294967296) (d : Nat) : ∀ i : Nat, l.length - i = d → i ≤ l.length → ∀ k, d + 17179869184 + 4 ≤ k → spec_CursorRange.l0 k o l st lim b1 b2 ((l.take i).filter (keepR (cmpO o) b1 b2 st lim)) (i : Int) = some (l.filter (keepR (cmpO o) b1 b2 st lim)) := by
  induction d with
  | zero =>
    intro i h1 h2 k hk
    obtain ⟨k, rfl⟩ : ∃ q, k = q + 1 := ⟨k - 1, by omega⟩
    rw [spec_CursorRange.l0, if_neg (by omega), List.take_of_length_le (by omega)]
  | succ d ih =>
    intro i h1 h2 k hk
    obtain ⟨k, rfl⟩ : ∃ q, k = q + 1 := ⟨k - 1, by omega⟩
    have hi : i < l.length := by omega
    have htk := sp_take hi (⟨[], []⟩ : S36)
    have hmem := s_mem hi (⟨[], []⟩ : S36)
    have hlen : ((l.take i).filter (keepR (cmpO o) b1 b2 st lim)).length < 2932031007402 := by
      have := List.length_filter_le (keepR (cmpO o) b1 b2 st lim) (l.take i)
      rw [List.length_take] at this
      omega
    have hnext := ih (i + 1) (by omega) (by omega) k (by omega)
    rw [htk, List.filter_append] at hnext
    have hx0 := hx _ hmem
    obtain ⟨v1, s1, hv1⟩ := sp_order o (l.getD i (⟨[], []⟩ : S36)).f0 st hx0 hs
    obtain ⟨v2, s2, hv2⟩ := sp_order o (l.getD i (⟨[], []⟩ : S36)).f0 lim hx0 hm
    have hv1 := hv1 k (by omega)
    have hv2 := hv2 k (by omega)
    have hi0 : (0 : Int) ≤ (i : Int) := by omega
    have hilt : (i : Int) < (l.length : Int) := by omega
    rw [spec_CursorRange.l0, if_pos hilt, s_rd36 l i hi, s_up hi hl]
    generalize l.getD i (⟨[], []⟩ : S36) = x at *
    have keep : keepR (cmpO o) b1 b2 st lim x = true → spec_CursorRange.l0 k o l st lim b1 b2 ((l.take i).filter (keepR (cmpO o) b1 b2 st lim) ++ [(⟨x.f0, x.f1⟩ : S36)]) ((i + 1 : Nat) : Int) = some (l.filter (keepR (cmpO o) b1 b2 st lim)) := fun h => by
      rw [List.filter_cons_of_pos h] at hnext
      exact hnext
    have drop : keepR (cmpO o) b1 b2 st lim x = false → spec_CursorRange.l0 k o l st lim b1 b2 ((l.take i).filter (keepR (cmpO o) b1 b2 st lim)) ((i + 1 : Nat) : Int) = some (l.filter (keepR (cmpO o) b1 b2 st lim)) := fun h => by
      rw [List.filter_cons_of_neg (by simp [h]), List.filter_nil, List.append_nil] at hnext
      exact hnext
    have kr : keepR (cmpO o) b1 b2 st lim x = (!(b1 && decide (cmpO o x.f0 st < 0)) && !(b2 && decide (0 ≤ cmpO o x.f0 lim))) := rfl
    have z1 := s1.1
    have z2 := s2.1
    clear hnext ih
    cases b1 with
    | true =>
      rw [if_pos rfl, if_pos hi0, hv1]
      simp only [Option.bind_some]
      by_cases q1 : v1 < 0
      · rw [if_pos q1]
        exact drop (by rw [kr, decide_eq_true (z1.1 q1)]; rfl)
      · rw [if_neg q1]
        have e1 : decide (cmpO o x.f0 st < 0) = false := decide_eq_false (fun h => q1 (z1.2 h))
        cases b2 with
        | true =>
          rw [if_pos rfl, hv2]
          simp only [Option.bind_some]
          by_cases q2 : v2 ≥ 0
          · rw [if_pos q2]
            exact drop (by rw [kr, e1, decide_eq_true (show 0 ≤ cmpO o x.f0 lim by have := z2.2; omega)]; rfl)
          · rw [if_neg q2, if_pos hlen]
            exact keep (by rw [kr, e1, decide_eq_false (show ¬ 0 ≤ cmpO o x.f0 lim by have := z2.1; omega)]; rfl)
        | false =>
          rw [if_neg (by simp), if_pos hlen]
          exact keep (by rw [kr, e1]; rfl)
    | false =>
      rw [if_neg (by simp)]
      cases b2 with
      | true =>
        rw [if_pos rfl, if_pos hi0, hv2]
        simp only [Option.bind_some]
        by_cases q2 : v2 ≥ 0
        · rw [if_pos q2]
          exact drop (by rw [kr, decide_eq_true (show 0 ≤ cmpO o x.f0 lim by have := z2.2; omega)]; rfl)
        · rw [if_neg q2, if_pos hlen]
          exact keep (by rw [kr, decide_eq_false (show ¬ 0 ≤ cmpO o x.f0 lim by have := z2.1; omega)]; rfl)
      | false =>
        rw [if_neg (by simp), if_pos hi0, if_pos hlen]
        exact keep (by rw [kr]; rfl)

/-- what CursorRange tells -/
def CrTold (ok : Nat → Prop) (r : List S36) (w : World) (e : Ending) (w' : World) : Prop := ∃ A c, e = .returned (.slice A r.length c) ∧ r.length ≤ c ∧ Kd.F k36 w' (fun k => ok k ∨ w.heap.size ≤ k) A r.length r ∧ Below w.heap.size w w'

theorem range_calls {w : World} {ok : Nat → Prop} {A S L : Option Addr} {n c sc lc : Nat} {l : List S36} {st lim : List Int} {b1 b2 : Bool} (o : Int) (hA : Kd.F k36 w ok A n l) (hn : l.length = n) (hc : n ≤ c) (hS : Kd.C (Kd.int .u8) w S st.length st) (hsc : st.length ≤ sc) (hL : Kd.C (Kd.int .u8) w L lim.length lim) (hlc : lim.length ≤ lc)
    (hs : st.length ≤ 4294967296) (hm : lim.length ≤ 4294967296) (hx : ∀ x ∈ l, x.f0.length ≤ 4294967296) (hl : n ≤ 4294967296) :
    Calls Tryz.prog 32 #[.int .i64 o, .slice A n c, .slice S st.length sc, .slice L lim.length lc, .bool b1, .bool b2] w fun e w' => CrTold ok (l.filter (keepR (cmpO o) b1 b2 st lim)) w e w' := by
  subst hn
  obtain ⟨k, h⟩ : ∃ k, spec_CursorRange.f k o l st lim b1 b2 = some (l.filter (keepR (cmpO o) b1 b2 st lim)) := ⟨_, range_l0 o l st lim b1 b2 hs hm hx hl l.length 0 (by omega) (by omega) _ (Nat.le_refl _)⟩
  refine (spec_CursorRange.calls k o ok A c l S sc st L lc lim b1 b2 _ w (Kd.V_mk hc hA) hS hsc hL hlc h).mono ?_
  rintro e w' ⟨v, rfl, hN, hb⟩
  obtain ⟨A', c', rfl⟩ := Kd.N_slice hN
  exact ⟨A', c', rfl, (Kd.N_reads' hN).2.1, Kd.N_F hN, hb⟩

end Go.Proofs.YtdkkkikcigjlhaaGreatDoor.Md

namespace Go.Proofs.YtdkkkikcigjlhaaGreatDoor.Md
open Go.RowKit Go.Proofs.YtdkkkikcigjlhaaGreatDoor.Con Go.Proofs.YtdkkkikcigjlhaaGreatDoor.Run Go.Proofs.YtdkkkikcigjlhaaGreatDoorW.PrintWords Go.Proofs.YtdkkkikcigjlhaaGreatDoorW.PrintMore Go.Proofs.YtdkkkikcigjlhaaGreatDoor.Cmp Go.Sort Go.RwLone Go.Proofs.YtdkkkikcigjlhaaGreatDoor.PFnMemMap
set_option linter.unusedVariables false
set_option linter.unusedSimpArgs false

theorem sumK_le {m : Nat} : ∀ {l : List S44}, (∀ x ∈ l, x.f0.length ≤ m ∧ x.f1.length ≤ m) → sumK l ≤ l.length * (2 * m) := by
  intro l
  induction l with
  | nil => intro _; simp [sumK]
  | cons x l ih =>
    intro h
    have h1 := h x (by simp)
    have h2 := ih (fun r hr => h r (by simp [hr]))
    have e : sumK (x :: l) = (x.f0.length + x.f1.length) + sumK l := rfl
    rw [e, List.length_cons, Nat.add_mul]
    omega
theorem sumM_le {m : Nat} : ∀ {l : List S104}, (∀ x ∈ l, x.f1.length ≤ m) → sumM l ≤ l.length * m := by
  intro l
  induction l with
  | nil => intro _; simp [sumM]
  | cons x l ih =>
    intro h
    have h1 := h x (by simp)
    have h2 := ih (fun r hr => h r (by simp [hr]))
    have e : sumM (x :: l) = x.f1.length + sumM l := rfl
    rw [e, List.length_cons, Nat.add_mul]
    omega
theorem totS_sum : ∀ l : List S44, totS l = sumK l := by
  intro l
  induction l with
  | nil => rfl
  | cons x l ih =>
    have e : sumK (x :: l) = (x.f0.length + x.f1.length) + sumK l := rfl
    rw [e, ← ih]
    rfl
theorem few_tot {l : List S44} {ms : List S104} (h : few [l] ms = true) (hl : ∀ x ∈ l, x.f0.length ≤ 2147483647 ∧ x.f1.length ≤ 2147483647) (hm : ∀ x ∈ ms, x.f1.length ≤ 2147483647) : totS l ≤ 1048576 ∧ l.length ≤ 4096 := by
  unfold few at h
  rw [decide_eq_true_iff] at h
  have e1 : sumL [l] = sumK l := by simp [sumL]
  have e2 : cntL [l] = l.length := by simp [cntL]
  rw [e1, e2] at h
  have h1 := sumK_le hl
  have h2 := sumM_le hm
  have h3 : l.length ≤ 4096 := by have := h.2; simp only [List.length_singleton] at this; omega
  have h4 : ms.length ≤ 4096 := by have := h.2; simp only [List.length_singleton] at this; omega
  have h5 : l.length * (2 * 2147483647) ≤ 4096 * (2 * 2147483647) := Nat.mul_le_mul_right _ h3
  have h6 : ms.length * 2147483647 ≤ 4096 * 2147483647 := Nat.mul_le_mul_right _ h4
  have h7 := h.1
  rw [totS_sum]
  refine ⟨?_, h3⟩
  have h8 : wrap64 ((sumK l + sumM ms : Nat) : Int) = ((sumK l + sumM ms : Nat) : Int) := by unfold wrap64; omega
  rw [h8] at h7
  omega

/-- the sorted pairs, as the law gathers them -/
def GatAt (okw : Nat) (r : List S36) (W : World) (v : Value) : Prop := ∃ A c, v = .slice A r.length c ∧ r.length ≤ c ∧ Kd.F k36 W (fun k => k < W.heap.size) A r.length r

theorem GatAt.below {okw : Nat} {r : List S36} {W W1 : World} {v : Value} (h : GatAt okw r W v) (hb : Below W.heap.size W W1) : GatAt okw r W1 v := by
  obtain ⟨A, c, rfl, h1, h2⟩ := h
  exact ⟨A, c, rfl, h1, Kd.F_mono (Kd.F_below h2 hb) (fun k hk => Nat.lt_of_lt_of_le hk hb.size)⟩

set_option maxHeartbeats 6400000 in
set_option maxRecDepth 100000 in
theorem memWalk_law {w : World} {A Am S L : Option Addr} {c cm sc lc : Nat} {l : List S44} {ms : List S104} {b1 b2 : Bool} {st lim : List Int} (o0 : Int) (hA : Kd.C k44 w A l.length l) (hc : l.length ≤ c) (hb : ∀ x ∈ l, Byt x.f0 ∧ Byt x.f1) (hM : Kd.C k104 w Am ms.length ms) (hcm : ms.length ≤ cm) (hbM : ∀ m ∈ ms, Byt m.f1)
    (hS : Kd.C (Kd.int .u8) w S st.length st) (hsc : st.length ≤ sc) (hL : Kd.C (Kd.int .u8) w L lim.length lim) (hlc : lim.length ≤ lc) (hbS : Byt st) (hbL : Byt lim) :
    Calls Tryz.prog 5 #[.int .i64 o0, .slice A l.length c, .agg #[.bool b1, .bool b2, .slice S st.length sc, .slice L lim.length lc], .slice Am ms.length cm] w fun e w' => e = .returned (.bool true) ∧ Below w.heap.size w w' := by
  have HA := Lib.hid (And.intro (Kd.C_F heap_k44 hA) (And.intro hc hb))
  have HM := Lib.hid (And.intro (Kd.C_F heap_k104 hM) (And.intro hcm hbM))
  have HSL := Lib.hid (And.intro hS (And.intro hsc (And.intro hL (And.intro hlc (And.intro hbS hbL)))))
  have HB0 := Lib.hid (below_alloc (Below.refl w.heap.size w) (.cells #[.bool b1, .bool b2, .slice S st.length sc, .slice L lim.length lc] 61))
  have HK0 := Lib.hid (blk_new w (.cells #[.bool b1, .bool b2, .slice S st.length sc, .slice L lim.length lc] 61))
  have HS0 := Lib.hid (World.size_alloc w (.cells #[.bool b1, .bool b2, .slice S st.length sc, .slice L lim.length lc] 61))
  clear hA hc hb hM hcm hbM hS hsc hL hlc hbS hbL
  go_enter Tryz.func5, Tryz.ntmps5
  go_wp2_with fail
  generalize w.alloc (.cells #[.bool b1, .bool b2, .slice S st.length sc, .slice L lim.length lc] 61) = w0 at *
  have hsp : ∀ W, Below w0.heap.size w0 W → W.heap[w.heap.size]? = some (.cells #[.bool b1, .bool b2, .slice S st.length sc, .slice L lim.length lc] 61 (0, 0)) := fun W hW => (hW.block _ (by have := HS0.out; omega)).trans HK0.out
  have HSP := Lib.hid hsp
  clear hsp
  refine (fits19_calls (Kd.F_now (Kd.F_below HA.out.1 HB0.out)) HA.out.2.1).mono ?_
  rintro e w1 ⟨b, rfl, HB, hb1⟩
  have HB1 := Lib.hid hb1
  clear hb1
  have below0 : ∀ W, Below w0.heap.size w0 W → Below w.heap.size w W := fun W hW => HB0.out.trans (hW.mono HB0.out.size)
  have HBW := Lib.hid below0
  clear below0
  cases b with
  | false =>
    go_wp2
    go_ret
    exact ⟨rfl, HBW.out _ HB1.out⟩
  | true =>
    have hlx := HB.out rfl
    have HLX := Lib.hid hlx
    clear HB hlx
    have t0 : w1.cell? ⟨w.heap.size, 0, none⟩ = some (.bool b1) := (blk_cell (HSP.out _ HB1.out) 0).trans rfl
    have t1 : w1.cell? ⟨w.heap.size, 1, none⟩ = some (.bool b2) := (blk_cell (HSP.out _ HB1.out) 1).trans rfl
    have t2 : w1.cell? ⟨w.heap.size, 2, none⟩ = some (.slice S st.length sc) := (blk_cell (HSP.out _ HB1.out) 2).trans rfl
    have t3 : w1.cell? ⟨w.heap.size, 3, none⟩ = some (.slice L lim.length lc) := (blk_cell (HSP.out _ HB1.out) 3).trans rfl
    go_wp2_with fail
    refine (fits21_calls (Kd.C_below HSL.out.1 (HBW.out _ HB1.out)) HSL.out.2.1 (Kd.C_below HSL.out.2.2.1 (HBW.out _ HB1.out)) HSL.out.2.2.2.1).mono ?_
    rintro e w2 ⟨b, rfl, HB, hb2⟩
    have HB2 := Lib.hid (HB1.out.trans (hb2.mono HB1.out.size))
    clear hb2 t0 t1 t2 t3
    cases b with
    | false =>
      go_wp2
      go_ret
      exact ⟨rfl, HBW.out _ HB2.out⟩
    | true =>
      have hsx := HB.out rfl
      have HSX := Lib.hid hsx
      clear HB hsx
      go_wp2_with fail
      refine (fits22_calls (Kd.F_now (Kd.F_below HM.out.1 (HBW.out _ HB2.out))) HM.out.2.1).mono ?_
      rintro e w3 ⟨b, rfl, HB, hb3⟩
      have HB3 := Lib.hid (HB2.out.trans (hb3.mono HB2.out.size))
      clear hb3
      cases b with
      | false =>
        go_wp2
        go_ret
        exact ⟨rfl, HBW.out _ HB3.out⟩
      | true =>
        have hmx := HB.out rfl
        have HMX := Lib.hid hmx
        clear HB hmx
        have HBW3 := Lib.hid (HBW.out _ HB3.out)
        have HF3 := Lib.hid (LL_F (c := c) (Kd.F_mono (Kd.F_below HA.out.1 HBW3.out) (fun k hk => Nat.lt_of_lt_of_le hk HBW3.out.size)) rfl HA.out.2.1)
        have HS3 := Lib.hid (World.size_alloc w3 (.cells #[.slice A l.length c] 38))
        have HB4 := Lib.hid (HB3.out.trans ((below_alloc (Below.refl w3.heap.size w3) (.cells #[.slice A l.length c] 38)).mono HB3.out.size))
        go_wp2_with fail
        generalize w3.alloc (.cells #[.slice A l.length c] 38) = w4 at *
        refine (fewPairs_calls (LL := [l]) (ms := ms) rfl HF3.out (fun k hk => by have := HS3.out; omega) rfl (Kd.F_below HM.out.1 (HBW.out _ HB4.out)) (fun k hk => Nat.lt_of_lt_of_le hk (HBW.out _ HB4.out).size) (by simp) (fun x hx => by rw [List.mem_singleton] at hx; rw [hx]; exact HLX.out.1) HMX.out.1).mono ?_
        rintro e w5 ⟨rfl, hb5⟩
        have HB5 := Lib.hid (HB4.out.trans (hb5.mono HB4.out.size))
        clear hb5
        cases hfew : few [l] ms with
        | false =>
          go_wp2
          go_ret
          exact ⟨rfl, HBW.out _ HB5.out⟩
        | true =>
          have HTOT := Lib.hid (few_tot hfew HLX.out.2 HMX.out.2)
          clear hfew
          go_upto_region 6 with (fail)
          have ho := ord3 o0
          generalize wrap64 ((IntKind.u64.wrap o0).tmod 3) = o at *
          have HO := Lib.hid ho
          clear ho
          have HST := Lib.hid (show st.length ≤ 4294967296 ∧ lim.length ≤ 4294967296 by have := HSX.out; omega)
          have q0 : w5.cell? ⟨w.heap.size, 0, none⟩ = some (.bool b1) := (blk_cell (HSP.out _ HB5.out) 0).trans rfl
          have q1 : w5.cell? ⟨w.heap.size, 1, none⟩ = some (.bool b2) := (blk_cell (HSP.out _ HB5.out) 1).trans rfl
          have q2 : w5.cell? ⟨w.heap.size, 2, none⟩ = some (.slice S st.length sc) := (blk_cell (HSP.out _ HB5.out) 2).trans rfl
          have q3 : w5.cell? ⟨w.heap.size, 3, none⟩ = some (.slice L lim.length lc) := (blk_cell (HSP.out _ HB5.out) 3).trans rfl
          go_cut [47] (fun v47 wc => ∃ bb, v47 = .bool bb ∧ Hid (Below w0.heap.size w0 wc))
          case first =>
            cases b1 with
            | false =>
              go_wp2
              go_meet
              case rel => exact ⟨false, rfl, HB5⟩
            | true =>
              cases b2 with
              | false =>
                go_wp2
                go_meet
                case rel => exact ⟨false, rfl, HB5⟩
              | true =>
                go_wp2_with (go_at_call 30; (with_reducible refine (order_calls o (Kd.C_below HSL.out.1 (HBW.out _ HB5.out)) HSL.out.2.1 (Kd.C_below HSL.out.2.2.1 (HBW.out _ HB5.out)) HSL.out.2.2.2.1 HST.out.1 HST.out.2).mono ?_); rintro e w6 ⟨v, rfl, -, hb6⟩; have HB6 := Lib.hid (HB5.out.trans (hb6.mono HB5.out.size)))
                go_meet
                case rel => exact ⟨_, rfl, HB6⟩
          case rest =>
            obtain ⟨bb, rfl, HBC⟩ := hcut
            clear q0 q1 q2 q3
            cases bb with
            | true =>
              go_wp2
              go_ret
              exact ⟨rfl, HBW.out _ HBC.out⟩
            | false =>
              have HX := Lib.hid (show ∀ x ∈ l, x.f0.length ≤ 4294967296 ∧ x.f1.length ≤ 4294967296 from fun x hx => by have := HLX.out.2 x hx; omega)
              have HLL := Lib.hid (show l.length ≤ 4294967296 by have := HLX.out.1; omega)
              go_wp2
              go_loopg [9, 10] l.length (fun k v9 v10 w' => ∃ j : Nat, v10 = .int .i64 (j : Int) ∧ Hid (j ≤ l.length ∧ l.length ≤ j + k) ∧ Hid (GatAt 0 (putsC (cmpO o) (l.take j)) w' v9) ∧ Hid (Below w0.heap.size w0 w'))
              case atStart => exact ⟨0, rfl, Lib.hid ⟨by omega, by omega⟩, Lib.hid ⟨none, 0, rfl, Nat.le_refl _, Kd.F_nil _ _ _⟩, HBC⟩
              case round =>
                obtain ⟨j, rfl, HJ, HG, HBR⟩ := hrel
                by_cases hj : j < l.length
                · obtain ⟨z0, x0, z1⟩ := few_step hj HLX.out.1
                  obtain ⟨x, hx⟩ : ∃ x, l.getD j (⟨[], []⟩ : S44) = x := ⟨_, rfl⟩
                  have hmem : x ∈ l := by rw [← hx]; exact s_mem hj _
                  have hbw := HBW.out _ HBR.out
                  obtain ⟨ad, K, kc, V, vc, hAA, r0, r1, hKF, hVF, hkc, hvc⟩ := kv_at (Kd.F_below HA.out.1 hbw) hj hx
                  subst hAA
                  have htk := sp_take hj (⟨[], []⟩ : S44)
                  rw [hx] at htk
                  obtain ⟨A9, c9, hv9, hc9, hF9⟩ := HG.out
                  subst hv9
                  have HS9 : Hid (putsC (cmpO o) (l.take (j + 1)) = putC (cmpO o) x.f0 x.f1 (putsC (cmpO o) (l.take j))) := Lib.hid (by rw [htk, putsC_snoc])
                  have hlen9 : (putsC (cmpO o) (l.take j)).length ≤ 4294967296 := by
                    have h1 := putsC_len (cmpO o) (l.take j)
                    rw [List.length_take] at h1
                    have := HLL.out
                    omega
                  have hall9 : ∀ y ∈ putsC (cmpO o) (l.take j), y.f0.length ≤ 4294967296 := putsC_all (p := fun y => y.f0.length ≤ 4294967296) _ (fun y hy => (HX.out y (List.mem_of_mem_take hy)).1)
                  generalize putsC (cmpO o) (l.take j) = r9 at *
                  have HC9 : ∀ W, Below wr.heap.size wr W → Hid (Calls Tryz.prog 31 #[.int .i64 o, .slice A9 r9.length c9, .slice K x.f0.length kc, .slice V x.f1.length vc] W fun e w' => CpuTold (fun k => k < wr.heap.size) (putC (cmpO o) x.f0 x.f1 r9) W e w') := fun W hW => Lib.hid (cput_calls o (Kd.F_below hF9 hW) rfl hc9 (fun k hk => Nat.lt_of_lt_of_le hk hW.size) (Kd.F_mono (Kd.F_below hKF hW) (fun k hk => Nat.lt_of_lt_of_le hk hbw.size)) hkc (Kd.F_mono (Kd.F_below hVF hW) (fun k hk => Nat.lt_of_lt_of_le hk hbw.size)) hvc (HX.out x hmem).1 hall9 hlen9)
                  have HJJ := Lib.hid hj
                  clear hmem hbw hKF hVF hkc hvc htk hc9 hF9 hlen9 hall9 hx
                  go_upto_region 12 with (fail)
                  refine still_tail 12 (by kernel_rfl) (by kernel_rfl) ?_
                  intro W3 hW3
                  have r0 := drew_cell hW3 r0
                  have r1 := drew_cell hW3 r1
                  have HD := Lib.hid (drew_below hW3)
                  have HC := HC9 _ (drew_below hW3)
                  clear hW3
                  simp only [List.take_succ_cons, List.take_zero, List.drop_succ_cons, List.drop_zero]
                  repeat still_step
                  refine wpStill_nil ?_
                  go_wp2_with (go_at_call 31; (with_reducible refine HC.out.mono ?_); rintro e w4 ⟨v, rfl, hN, hb4⟩)
                  go_roundg (gk - 1)
                  case measure => have := HJ.out; have := HJJ.out; omega
                  case rel =>
                    refine ⟨j + 1, (by first | rfl | exact congrArg _ x0), Lib.hid (by have := HJ.out; have := HJJ.out; omega), Lib.hid ?_, Lib.hid (HBR.out.trans ((HD.out.trans (hb4.mono HD.out.size)).mono HBR.out.size))⟩
                    rw [HS9.out]
                    obtain ⟨A', c', rfl⟩ := Kd.N_slice hN
                    exact ⟨A', c', rfl, (Kd.N_reads' hN).2.1, Kd.F_mono (Kd.F_bound (Kd.N_F hN)) (fun k hk => hk.2)⟩
                · have z0 : decide ((j : Int) < (l.length : Int)) = false := decide_eq_false (by omega)
                  have hjn : j = l.length := by have := HJ.out; omega
                  have hg := HG.out
                  rw [hjn, List.take_length] at hg
                  obtain ⟨A9, c9, hv9, hc9, hF9⟩ := hg
                  subst hv9
                  clear hjn HG
                  have hlen9 : (putsC (cmpO o) l).length ≤ 4294967296 := Nat.le_trans (putsC_len (cmpO o) l) HLL.out
                  have hall9 : ∀ y ∈ putsC (cmpO o) l, y.f0.length ≤ 4294967296 := putsC_all (p := fun y => y.f0.length ≤ 4294967296) _ (fun y hy => (HX.out y hy).1)
                  have hkv := range_kv (cmpO o) b1 b2 st lim (putsC (cmpO o) l)
                  rw [putsC_kv (ord_cmpO o)] at hkv
                  have HKV := Lib.hid hkv
                  clear hkv
                  generalize putsC (cmpO o) l = r9 at *
                  have hbw := HBW.out _ HBR.out
                  have q0 : wr.cell? ⟨w.heap.size, 0, none⟩ = some (.bool b1) := (blk_cell (HSP.out _ HBR.out) 0).trans rfl
                  have q1 : wr.cell? ⟨w.heap.size, 1, none⟩ = some (.bool b2) := (blk_cell (HSP.out _ HBR.out) 1).trans rfl
                  have q2 : wr.cell? ⟨w.heap.size, 2, none⟩ = some (.slice S st.length sc) := (blk_cell (HSP.out _ HBR.out) 2).trans rfl
                  have q3 : wr.cell? ⟨w.heap.size, 3, none⟩ = some (.slice L lim.length lc) := (blk_cell (HSP.out _ HBR.out) 3).trans rfl
                  have HRC := Lib.hid (range_calls (b1 := b1) (b2 := b2) o hF9 rfl hc9 (Kd.C_below HSL.out.1 hbw) HSL.out.2.1 (Kd.C_below HSL.out.2.2.1 hbw) HSL.out.2.2.2.1 HST.out.1 HST.out.2 hall9 hlen9)
                  have HR9 := Lib.hid (show (r9.filter (keepR (cmpO o) b1 b2 st lim)).length ≤ 4294967296 ∧ ∀ y ∈ r9.filter (keepR (cmpO o) b1 b2 st lim), y.f0.length ≤ 4294967296 from ⟨Nat.le_trans (List.length_filter_le _ _) hlen9, fun y hy => hall9 y (List.mem_filter.1 hy).1⟩)
                  generalize r9.filter (keepR (cmpO o) b1 b2 st lim) = R at *
                  clear hlen9 hall9 hbw hc9 hF9
                  go_wp2_with (first
                    | (go_at_call 32; (with_reducible refine HRC.out.mono ?_); rintro e w6 ⟨A6, c6, rfl, hc6, hF6, hb6⟩; have HB6 := Lib.hid (HBR.out.trans (hb6.mono HBR.out.size)); have p0 : w6.cell? ⟨w.heap.size, 0, none⟩ = some (.bool b1) := (blk_cell (HSP.out _ HB6.out) 0).trans rfl; have p1 : w6.cell? ⟨w.heap.size, 1, none⟩ = some (.bool b2) := (blk_cell (HSP.out _ HB6.out) 1).trans rfl; have p2 : w6.cell? ⟨w.heap.size, 2, none⟩ = some (.slice S st.length sc) := (blk_cell (HSP.out _ HB6.out) 2).trans rfl; have p3 : w6.cell? ⟨w.heap.size, 3, none⟩ = some (.slice L lim.length lc) := (blk_cell (HSP.out _ HB6.out) 3).trans rfl; have HBW6 := Lib.hid (HBW.out _ HB6.out))
                    | (go_at_call 33; (with_reducible refine (MemWalk_calls (b1 := b1) (b2 := b2) (cmpr_ord HO.out) (Kd.F_below HA.out.1 HBW6.out) HA.out.2.2 (fun k hk q => by have := HBW6.out.size; omega) (by have := HTOT.out.1; omega) HLL.out (Kd.C_below HSL.out.1 HBW6.out) (Kd.C_below HSL.out.2.2.1 HBW6.out) HSL.out.2.2.2.2.1 HSL.out.2.2.2.2.2 HST.out.1 HST.out.2 (Kd.F_below HM.out.1 HBW6.out) HM.out.2.2 (fun k hk q => by have := HBW6.out.size; omega) (by have := HMX.out.1; omega) HX.out).mono ?_); rintro e w7 ⟨v, rfl, hN, hb7⟩; rw [← HKV.out] at hN; obtain ⟨Ag, cg, rfl⟩ := Kd.N_slice hN; rw [atsL_len] at hN; rw [atsL_len]; have HG7 := Lib.hid (Kd.N_F hN); have HB7 := Lib.hid (HBW6.out.trans (hb7.mono HBW6.out.size)))
                    | (go_at_call 27; (with_reducible refine (walked_calls o (Kd.F_below hF6 hb7) rfl hc6 HR9.out.2 HR9.out.1 (Kd.F_below HM.out.1 HB7.out) rfl (by have := HMX.out.1; omega) (fun m hm => by have := HMX.out.2 m hm; omega) HG7.out).mono ?_); rintro e w9 ⟨rfl, hb9⟩; have HB9 := Lib.hid (HB7.out.trans (hb9.mono HB7.out.size)))
                    | (go_at_call 28; (with_reducible refine walkAwake_calls.mono ?_); rintro e w10 ⟨rfl, hb10⟩; have HB10 := Lib.hid (HB9.out.trans (hb10.mono HB9.out.size))))
                  go_ret
                  exact ⟨rfl, HB10.out⟩

end Go.Proofs.YtdkkkikcigjlhaaGreatDoor.Md
