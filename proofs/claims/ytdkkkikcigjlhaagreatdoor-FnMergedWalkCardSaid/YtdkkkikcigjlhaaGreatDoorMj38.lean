/- An iterator that merges iterators: its state; First, Last, Seek. -/
import Derived.Test.YtdkkkikcigjlhaaGreatDoorMj37
set_option linter.unusedVariables false
set_option linter.unusedSimpArgs false
namespace Go.Proofs.YtdkkkikcigjlhaaGreatDoor.Md
open Go.RowKit Go.Proofs.YtdkkkikcigjlhaaGreatDoor.Con Go.Proofs.YtdkkkikcigjlhaaGreatDoor.Run Go.Proofs.YtdkkkikcigjlhaaGreatDoorW.PrintWords Go.Proofs.YtdkkkikcigjlhaaGreatDoorW.PrintMore Go.Proofs.YtdkkkikcigjlhaaGreatDoor.Cmp Go.Sort Go.RwLone Go.Proofs.YtdkkkikcigjlhaaGreatDoor.PFnMemMap

structure MgS (V : Value) (LL : List (List S44)) (k : Nat) (Ai : Option Addr) (kc m kb : Nat) (R : Nat → Prop) (it : Nat → Nat) (w : World) (pf : Nat → Int) (ka : Array Value) (i d : Int) : Prop where
  bm : w.heap[m]? = some (mgO V (.slice Ai k kc) kb k i d)
  bk : w.heap[kb]? = some (.cells ka 25 (0, 0))
  sz : ka.size = k
  itr : ∀ x, x < k → ∃ ad, Ai = some ad ∧ w.cell? (ad.add x) = some (dtV (it x)) ∧ R (ad.add x).block
  dt : ∀ x, x < k → DtN V LL m kb R w x (it x) (pf x)
  inj : ∀ x y, x < k → y < k → it x = it y → x = y
  ne : kb ≠ m
  nr : ∀ q, R q → q ≠ m ∧ q ≠ kb ∧ q < w.heap.size

def MgF (k m kb : Nat) (it : Nat → Nat) (q : Nat) : Prop := q = m ∨ q = kb ∨ ∃ y, y < k ∧ q = it y
def StP (l : List S44) (p c : Int) : Prop := l.length = 0 ∨ p = c
def hdP (l : List S44) (p : Int) : Option (List Int) := if onL (kvS l) p = true then some (keyL (kvS l) p) else none

section
variable {V : Value} {f : List Int → List Int → Int} {LL : List (List S44)} {k : Nat} {Ai : Option Addr} {kc m kb : Nat} {R : Nat → Prop} {it : Nat → Nat} {w w1 : World} {pf : Nat → Int} {ka : Array Value} {i d : Int} {x : Nat}

theorem MgS.move (h : MgS V LL k Ai kc m kb R it w pf ka i d) (hx : x < k) {p : Int} (hd : DtN V LL m kb R w1 x (it x) p) (hf : Fr w w1 (fun q => q = it x)) : MgS V LL k Ai kc m kb R it w1 (fun y => if y = x then p else pf y) ka i d := by
  have h0 := h.dt x hx
  have hRn : ∀ q, R q → ¬ q = it x := fun q hq e => h0.2.2.1 (by rw [← e]; exact hq)
  refine ⟨(hf.block m (blk_lt h.bm) (fun e => h0.1 e.symm)).trans h.bm, (hf.block kb (blk_lt h.bk) (fun e => h0.2.1 e.symm)).trans h.bk, h.sz, fun y hy => ?_, fun y hy => ?_, h.inj, h.ne, fun q hq => ⟨(h.nr q hq).1, (h.nr q hq).2.1, Nat.lt_of_lt_of_le (h.nr q hq).2.2 hf.size⟩⟩
  · obtain ⟨ad, h1, h2, h3⟩ := h.itr y hy
    exact ⟨ad, h1, hf.cell h2 (hRn _ h3), h3⟩
  · show DtN V LL m kb R w1 y (it y) (if y = x then p else pf y)
    by_cases e : y = x
    · rw [if_pos e, e]; exact hd
    · rw [if_neg e]
      exact (h.dt y hy).fr hf hRn (fun q => e (h.inj y x hy hx q))

theorem MgS.setKey (h : MgS V LL k Ai kc m kb R it w pf ka i d) (v : Value) : MgS V LL k Ai kc m kb R it (w.setCell ⟨kb, x, none⟩ v) pf (ka.setIfInBounds x v) i d := by
  have hf := (Fr.refl w (fun q => q = kb)).setCell (p := ⟨kb, x, none⟩) (.inl rfl) v
  have hRn : ∀ q, R q → ¬ q = kb := fun q hq => (h.nr q hq).2.1
  refine ⟨(hf.block m (blk_lt h.bm) (fun e => h.ne e.symm)).trans h.bm, blk_set h.bk x v, by rw [Array.size_setIfInBounds]; exact h.sz, fun y hy => ?_, fun y hy => (h.dt y hy).fr hf hRn (h.dt y hy).2.1, h.inj, h.ne, fun q hq => ⟨(h.nr q hq).1, (h.nr q hq).2.1, Nat.lt_of_lt_of_le (h.nr q hq).2.2 hf.size⟩⟩
  obtain ⟨ad, h1, h2, h3⟩ := h.itr y hy
  exact ⟨ad, h1, hf.cell h2 (hRn _ h3), h3⟩

theorem MgS.setDir (h : MgS V LL k Ai kc m kb R it w pf ka i d) {i2 d2 : Int} (hf : Fr w w1 (fun q => q = m)) (hb : w1.heap[m]? = some (mgO V (.slice Ai k kc) kb k i2 d2)) : MgS V LL k Ai kc m kb R it w1 pf ka i2 d2 := by
  have hRn : ∀ q, R q → ¬ q = m := fun q hq => (h.nr q hq).1
  refine ⟨hb, (hf.block kb (blk_lt h.bk) h.ne).trans h.bk, h.sz, fun y hy => ?_, fun y hy => (h.dt y hy).fr hf hRn (h.dt y hy).1, h.inj, h.ne, fun q hq => ⟨(h.nr q hq).1, (h.nr q hq).2.1, Nat.lt_of_lt_of_le (h.nr q hq).2.2 hf.size⟩⟩
  obtain ⟨ad, h1, h2, h3⟩ := h.itr y hy
  exact ⟨ad, h1, hf.cell h2 (hRn _ h3), h3⟩

def KyUp (w : World) (LL : List (List S44)) (R : Nat → Prop) (ka : Array Value) (pf : Nat → Int) (tgt : Nat → Int) (j : Nat) : Prop := ∀ y, y < j → StP (LL.getD y []) (pf y) (tgt y) ∧ ∃ v, ka[y]? = some v ∧ KyV w R (hdP (LL.getD y []) (tgt y)) v

theorem KyUp.next {tgt : Nat → Int} {j : Nat} {p : Int} {v : Value} (h : KyUp w LL R ka pf tgt j) (hk : ∀ q, R q → q < w.heap.size → w1.heap[q]? = w.heap[q]?) (hj : j < ka.size) (hp : StP (LL.getD j []) p (tgt j)) (hv : KyV w1 R (hdP (LL.getD j []) (tgt j)) v) : KyUp w1 LL R (ka.setIfInBounds j v) (fun y => if y = j then p else pf y) tgt (j + 1) := by
  intro y hy
  by_cases e : y = j
  · subst e
    refine ⟨?_, v, by rw [Array.getElem?_setIfInBounds_self_of_lt hj], hv⟩
    show StP _ (if y = y then p else pf y) _
    rw [if_pos rfl]; exact hp
  · obtain ⟨h1, v2, h2, h3⟩ := h y (by omega)
    refine ⟨?_, v2, by rw [Array.getElem?_setIfInBounds_ne (fun q => e q.symm)]; exact h2, h3.step hk⟩
    show StP _ (if y = j then p else pf y) _
    rw [if_neg e]; exact h1

def MgTold (f : List Int → List Int → Int) (V : Value) (LL : List (List S44)) (k : Nat) (Ai : Option Addr) (kc m kb : Nat) (R : Nat → Prop) (it : Nat → Nat) (tgt : Nat → Int) (Best : (Nat → Option (List Int)) → Int → Option (List Int) → Prop) (dgo dend : Int) (w : World) (e : Ending) (w' : World) : Prop :=
  ∃ (bb : Bool) (pf : Nat → Int) (ka : Array Value) (i : Int), e = .returned (.bool bb) ∧ Hid (MgS V LL k Ai kc m kb R it w' pf ka i (if bb = true then dgo else dend)) ∧ Hid (Fr w w' (MgF k m kb it)) ∧ Hid (KyUp w' LL R ka pf tgt k) ∧ Hid (if bb = true then ∃ key, Best (fun y => hdP (LL.getD y []) (tgt y)) i (some key) else Best (fun y => hdP (LL.getD y []) (tgt y)) i none)

theorem mem_at2 {n q : Nat} (hn : LL.length = n) (hq : q < n) : LL.getD q [] ∈ LL := by
  rw [List.getD_eq_getElem?_getD, List.getElem?_eq_getElem (by rw [hn]; exact hq)]
  exact List.getElem_mem _

set_option maxHeartbeats 12800000 in
set_option maxRecDepth 100000 in
theorem mgFirst_calls (hV : Cmpr V f) (hn : LL.length = k) (hl : k ≤ 4294967296) (hb : ∀ l ∈ LL, l.length ≤ 4294967296 ∧ ∀ x ∈ l, Byt x.f0) (h : MgS V LL k Ai kc m kb R it w pf ka i d) (hd : d ≠ -1) :
    Calls Tryz.prog 210 #[.pointer (some ⟨m, 0, none⟩)] w fun e w' => MgTold f V LL k Ai kc m kb R it (fun y => (0 : Int)) (fun hd i o => Least f hd k k i o) 3 1 w e w' := by
  have r6 : w.cell? ⟨m, 6, none⟩ = some .nilIface := (blk_cell h.bm 6).trans rfl
  have r5 : w.cell? ⟨m, 5, none⟩ = some (.int .i64 d) := (blk_cell h.bm 5).trans rfl
  have r1 : w.cell? ⟨m, 1, none⟩ = some (.slice Ai k kc) := (blk_cell h.bm 1).trans rfl
  have y5 : (d == -1) = false := by rw [beq_eq_false_iff_ne]; exact hd
  have HH := Lib.hid h
  have HE := Lib.hid (And.intro hn (And.intro hl hb))
  have HV := Lib.hid hV
  clear h hd hn hb hV
  go_enter Tryz.func210, Tryz.ntmps210
  go_wp2
  go_loopg [24] k (fun kk vi w' => ∃ (j : Nat) (pf2 : Nat → Int) (ka2 : Array Value), vi = .int .i64 (j : Int) ∧ Hid (j ≤ k ∧ k ≤ j + kk) ∧ Hid (MgS V LL k Ai kc m kb R it w' pf2 ka2 i d) ∧ Hid (Fr w w' (MgF k m kb it)) ∧ Hid (KyUp w' LL R ka2 pf2 (fun y => (0 : Int)) j))
  case atStart => exact ⟨0, pf, ka, rfl, Lib.hid ⟨Nat.zero_le _, by omega⟩, HH, Lib.hid (Fr.refl _ _), Lib.hid (fun y hy => by omega)⟩
  case round =>
    obtain ⟨j, pf2, ka2, rfl, HJ, HS, HF, HU⟩ := hrel
    by_cases hj : j < k
    · have z0 : decide ((j : Int) < (k : Int)) = true := decide_eq_true (by omega)
      have z2 : (j : Int) < (k : Int) := by omega
      have HJL := Lib.hid (And.intro hj HJ.out.2)
      have w1' : wrap64 ((j : Int) + 1) = (j : Int) + 1 := wz (by omega) (by omega)
      obtain ⟨ad, rfl, c0, -⟩ := HS.out.itr j hj
      have hmem : LL.getD j [] ∈ LL := mem_at2 HE.out.1 hj
      have HDN := Lib.hid (dnFirst HV.out (HE.out.2.2 _ hmem).1 (HE.out.2.2 _ hmem).2 (HS.out.dt j hj))
      have n3 : ∀ w, (nilAhead 418 161 (.pointer (some ⟨it j, 0, none⟩)) "First").run Tryz.prog w = .ok (some false) w := fun w => by kernel_rfl
      have m3 : ∀ w, (method 418 161 (.pointer (some ⟨it j, 0, none⟩)) "First").run Tryz.prog w = .ok (193, .pointer (some ⟨it j, 0, none⟩)) w := fun w => by kernel_rfl
      have q3 : ∀ (args : Array Value) (w : World), (callFunc 193 args).run Tryz.prog w = .ok (.enter 193 args) w := fun args w => Go.MuLone.run_callFunc_enter Tryz.func193 (by kernel_rfl) rfl args w
      by_cases h0 : 0 < (LL.getD j []).length
      · rw [decide_eq_true h0] at HDN
        have hp0 : (if (LL.getD j []).length = 0 then -1 else 0) = (0 : Int) := by first | rfl | (rw [if_neg (by omega)])
        rw [hp0] at HDN
        have hon : onL (kvS (LL.getD j [])) ((0 : Int)) = true := by
          unfold onL
          rw [kvS_len, decide_eq_true (p := (0 : Int) ≤ ((0 : Int))) (by omega), decide_eq_true (p := ((0 : Int)) < ((LL.getD j []).length : Int)) (by omega)]
          rfl
        have HYES : Hid (hdP (LL.getD j []) ((0 : Int)) = some (keyL (kvS (LL.getD j [])) ((0 : Int)))) := Lib.hid (by unfold hdP; rw [if_pos hon])
        have HBY := Lib.hid (keyL_byt (HE.out.2.2 _ hmem).2 ((0 : Int)))
        have HKEY := Lib.hid (show ∀ w1, DtN V LL m kb R w1 j (it j) ((0 : Int)) → Calls Tryz.prog 194 #[.pointer (some ⟨it j, 0, none⟩)] w1 fun e w' => DyTold V LL m kb R j (it j) ((0 : Int)) w1 e w' from fun w1 hd => dnKey HV.out (HE.out.2.2 _ hmem).1 (HE.out.2.2 _ hmem).2 hd hon)
        have n4 : ∀ w, (nilAhead 418 161 (.pointer (some ⟨it j, 0, none⟩)) "Key").run Tryz.prog w = .ok (some false) w := fun w => by kernel_rfl
        have m4 : ∀ w, (method 418 161 (.pointer (some ⟨it j, 0, none⟩)) "Key").run Tryz.prog w = .ok (194, .pointer (some ⟨it j, 0, none⟩)) w := fun w => by kernel_rfl
        have q4 : ∀ (args : Array Value) (w : World), (callFunc 194 args).run Tryz.prog w = .ok (.enter 194 args) w := fun args w => Go.MuLone.run_callFunc_enter Tryz.func194 (by kernel_rfl) rfl args w
        have HMV := Lib.hid (show ∀ (w1 : World) (p : Int), DtN V LL m kb R w1 j (it j) p → Fr wr w1 (fun q => q = it j) → MgS V LL k (some ad) kc m kb R it w1 (fun y => if y = j then p else pf2 y) ka2 i d from fun w1 p hd hf => HS.out.move hj hd hf)
        clear h0 hmem hj hp0 hon
        go_upto_region 11 with ((with_reducible refine HDN.out.mono ?_); rintro e w1 ⟨rfl, hd1, hf1⟩)
        have hdd : DtN V LL m kb R w1.drew j (it j) ((0 : Int)) := hd1.out.fr (Fr.of_below (below_drew (Below.refl _ _)) (fun _ => False)) (fun q _ e => e) (fun e => e)
        have hff : Fr wr w1.drew (fun q => q = it j) := hf1.out.then_ (Fr.of_below (below_drew (Below.refl _ _)) (fun _ => False)) (fun q e => e.elim)
        have HSD := Lib.hid (HMV.out _ _ hdd hff)
        have HK1 := Lib.hid (HKEY.out _ hdd)
        have HFF := Lib.hid hff
        have s3 : w1.drew.cell? ⟨m, 3, none⟩ = some (.slice (some ⟨kb, 0, none⟩) k k) := (blk_cell HSD.out.bm 3).trans rfl
        clear hdd hff hd1 hf1
        go_region_with (first
          | ((with_reducible refine HK1.out.mono ?_); rintro e w2 ⟨a2, c2, rfl, hF2, hd2, hf2⟩; have HS2 := Lib.hid (HMV.out w2 _ hd2.out (HFF.out.then_ hf2.out (fun q hq => .inl hq))); have t3 : w2.cell? ⟨m, 3, none⟩ = some (.slice (some ⟨kb, 0, none⟩) k k) := (blk_cell HS2.out.bm 3).trans rfl; have fk := blk_frozen HS2.out.bk j; have ck : ∃ v, w2.cell? ⟨kb, j, none⟩ = some v := ⟨_, (blk_cell HS2.out.bk j).trans (Array.getElem?_eq_getElem (by rw [HS2.out.sz]; exact HJL.out.1))⟩; obtain ⟨vk, ck⟩ := ck)
          | (go_at_call 220; (with_reducible refine (assert_calls _ _ _ _).mono ?_); rintro e wz ⟨rfl, rfl⟩))
        all_goals (
          rename_i K' hK'
          simp only [Exit.then, Exit.inBlock]
          refine hK' _ _ ?_
          go_wp2
          go_roundg (gk - 1)
          case measure => exact round_less HJL.out.1 HJL.out.2
          case rel =>
            refine ⟨j + 1, _, _, (by first | rfl | exact congrArg _ w1'), Lib.hid (round_next HJL.out.1 HJL.out.2), Lib.hid (HS2.out.setKey (x := j) _), Lib.hid ?_, Lib.hid ?_⟩
            · exact (HF.out.then_ (HFF.out.then_ hf2.out (fun q hq => .inl hq)) (fun q hq => .inl (.inr (.inr ⟨j, HJL.out.1, hq⟩)))).setCell (p := ⟨kb, j, none⟩) (.inl (.inr (.inl rfl))) _
            · refine HU.out.next (fun q hq hl => (Below.heap_setCell _ _ _ q (HS.out.nr q hq).2.1).trans ((HFF.out.then_ hf2.out (fun q hq => .inl hq)).block q hl (fun e => hd2.out.2.2.1 (by rw [← e]; exact hq)))) (by rw [HS.out.sz]; exact HJL.out.1) (.inr rfl) ?_
              rw [HYES.out]
              exact ⟨a2, c2, rfl, Kd.F_step hF2.out (fun q hq _ => Below.heap_setCell _ _ _ q (HS.out.nr q hq).2.1), HBY.out⟩)
      · rw [decide_eq_false h0] at HDN
        have HST := Lib.hid (show ∀ p : Int, (if (LL.getD j []).length = 0 then -1 else 0) = p → StP (LL.getD j []) p ((0 : Int)) from fun p hp => by first | (exact .inl (by omega)) | (exact .inr hp.symm))
        have HNO : Hid (hdP (LL.getD j []) ((0 : Int)) = none) := Lib.hid (by
          unfold hdP onL
          rw [kvS_len]
          first
            | (rw [decide_eq_false (p := ((0 : Int)) < ((LL.getD j []).length : Int)) (by omega), Bool.and_false]; rfl)
            | (rw [decide_eq_false (p := (0 : Int) ≤ ((0 : Int))) (by omega), Bool.false_and]; rfl))
        have HMV := Lib.hid (show ∀ (w1 : World) (p : Int), DtN V LL m kb R w1 j (it j) p → Fr wr w1 (fun q => q = it j) → MgS V LL k (some ad) kc m kb R it w1 (fun y => if y = j then p else pf2 y) ka2 i d from fun w1 p hd hf => HS.out.move hj hd hf)
        clear h0 hmem hj
        go_wp2_with (first
          | ((with_reducible refine HDN.out.mono ?_); rintro e w1 ⟨rfl, hd1, hf1⟩; have HS1 := Lib.hid (HMV.out w1 _ hd1.out hf1.out); have s3 : w1.cell? ⟨m, 3, none⟩ = some (.slice (some ⟨kb, 0, none⟩) k k) := (blk_cell HS1.out.bm 3).trans rfl; have fk := blk_frozen HS1.out.bk j; have ck : ∃ v, w1.cell? ⟨kb, j, none⟩ = some v := ⟨_, (blk_cell HS1.out.bk j).trans (Array.getElem?_eq_getElem (by rw [HS1.out.sz]; exact HJL.out.1))⟩; obtain ⟨vk, ck⟩ := ck)
          | (go_at_call 221; (with_reducible refine (iterErr_calls hd1.out).mono ?_); rintro e wz ⟨rfl, rfl⟩))
        go_roundg (gk - 1)
        case measure => exact round_less HJL.out.1 HJL.out.2
        case rel =>
          refine ⟨j + 1, _, _, (by first | rfl | exact congrArg _ w1'), Lib.hid (round_next HJL.out.1 HJL.out.2), Lib.hid (HS1.out.setKey (x := j) (.slice none 0 0)), Lib.hid ?_, Lib.hid ?_⟩
          · exact (HF.out.then_ hf1.out (fun q hq => .inl (.inr (.inr ⟨j, HJL.out.1, hq⟩)))).setCell (p := ⟨kb, j, none⟩) (.inl (.inr (.inl rfl))) _
          · exact HU.out.next (fun q hq hl => (Below.heap_setCell _ _ _ q (HS.out.nr q hq).2.1).trans (hf1.out.block q hl (fun e => hd1.out.2.2.1 (by rw [← e]; exact hq)))) (by rw [HS.out.sz]; exact HJL.out.1) (HST.out _ rfl) (by rw [HNO.out]; rfl)
    · have z0 : decide ((j : Int) < (k : Int)) = false := decide_eq_false (by omega)
      have z2 : ¬ (j : Int) < (k : Int) := by omega
      have hjk : j = k := by have := HJ.out.1; omega
      rw [hjk] at HU
      have f5 := blk_frozen HS.out.bm 5
      have c5 : wr.cell? ⟨m, 5, none⟩ = some (.int .i64 d) := (blk_cell HS.out.bm 5).trans rfl
      have hfr := (Fr.refl wr (fun q => q = m)).setCell (p := ⟨m, 5, none⟩) (.inl rfl) (.int .i64 0)
      have HS5 := Lib.hid (HS.out.setDir hfr ((blk_set HS.out.bm 5 (.int .i64 0)).trans rfl))
      have HF5 := Lib.hid (HF.out.then_ hfr (fun q hq => .inl (.inl hq)))
      have HU5 := Lib.hid (show KyUp (wr.setCell ⟨m, 5, none⟩ (.int .i64 0)) LL R ka2 pf2 (fun y => (0 : Int)) k from fun y hy => ⟨(HU.out y hy).1, by
        obtain ⟨v, h1, h2⟩ := (HU.out y hy).2
        exact ⟨v, h1, h2.step (fun q hq _ => Below.heap_setCell _ _ _ q (HS.out.nr q hq).1)⟩⟩)
      have HSC := Lib.hid (mgNext_scan (hd := fun y => hdP (LL.getD y []) ((0 : Int))) HV.out HS5.out.bm HS5.out.bk HS5.out.ne (fun q hq => (HS5.out.nr q hq).1) ⟨HS5.out.sz, fun y hy => (HU5.out y hy).2⟩ (fun e => by omega) HE.out.2.1)
      clear hfr hjk hj
      go_wp2_with (go_at_call 222; (with_reducible refine HSC.out.mono ?_); rintro e w6 ⟨bb, i6, rfl, hm6, hf6, hb6⟩)
      go_ret
      exact ⟨bb, pf2, ka2, i6, rfl, Lib.hid (HS5.out.setDir hf6.out hm6.out), Lib.hid (HF5.out.then_ hf6.out (fun q hq => .inl (.inl hq))), Lib.hid (fun y hy => ⟨(HU5.out y hy).1, by
        obtain ⟨v, h1, h2⟩ := (HU5.out y hy).2
        exact ⟨v, h1, h2.step (fun q hq hl => hf6.out.block q hl (HS5.out.nr q hq).1)⟩⟩), hb6⟩

set_option maxHeartbeats 12800000 in
set_option maxRecDepth 100000 in
theorem mgLast_calls (hV : Cmpr V f) (hn : LL.length = k) (hl : k ≤ 4294967296) (hb : ∀ l ∈ LL, l.length ≤ 4294967296 ∧ ∀ x ∈ l, Byt x.f0) (h : MgS V LL k Ai kc m kb R it w pf ka i d) (hd : d ≠ -1) :
    Calls Tryz.prog 212 #[.pointer (some ⟨m, 0, none⟩)] w fun e w' => MgTold f V LL k Ai kc m kb R it (fun y => ((LL.getD y []).length : Int) - 1) (fun hd i o => Most f hd k k i o) 2 0 w e w' := by
  have r6 : w.cell? ⟨m, 6, none⟩ = some .nilIface := (blk_cell h.bm 6).trans rfl
  have r5 : w.cell? ⟨m, 5, none⟩ = some (.int .i64 d) := (blk_cell h.bm 5).trans rfl
  have r1 : w.cell? ⟨m, 1, none⟩ = some (.slice Ai k kc) := (blk_cell h.bm 1).trans rfl
  have y5 : (d == -1) = false := by rw [beq_eq_false_iff_ne]; exact hd
  have HH := Lib.hid h
  have HE := Lib.hid (And.intro hn (And.intro hl hb))
  have HV := Lib.hid hV
  clear h hd hn hb hV
  go_enter Tryz.func212, Tryz.ntmps212
  go_wp2
  go_loopg [24] k (fun kk vi w' => ∃ (j : Nat) (pf2 : Nat → Int) (ka2 : Array Value), vi = .int .i64 (j : Int) ∧ Hid (j ≤ k ∧ k ≤ j + kk) ∧ Hid (MgS V LL k Ai kc m kb R it w' pf2 ka2 i d) ∧ Hid (Fr w w' (MgF k m kb it)) ∧ Hid (KyUp w' LL R ka2 pf2 (fun y => ((LL.getD y []).length : Int) - 1) j))
  case atStart => exact ⟨0, pf, ka, rfl, Lib.hid ⟨Nat.zero_le _, by omega⟩, HH, Lib.hid (Fr.refl _ _), Lib.hid (fun y hy => by omega)⟩
  case round =>
    obtain ⟨j, pf2, ka2, rfl, HJ, HS, HF, HU⟩ := hrel
    by_cases hj : j < k
    · have z0 : decide ((j : Int) < (k : Int)) = true := decide_eq_true (by omega)
      have z2 : (j : Int) < (k : Int) := by omega
      have HJL := Lib.hid (And.intro hj HJ.out.2)
      have w1' : wrap64 ((j : Int) + 1) = (j : Int) + 1 := wz (by omega) (by omega)
      obtain ⟨ad, rfl, c0, -⟩ := HS.out.itr j hj
      have hmem : LL.getD j [] ∈ LL := mem_at2 HE.out.1 hj
      have HDN := Lib.hid (dnLast HV.out (HE.out.2.2 _ hmem).1 (HE.out.2.2 _ hmem).2 (HS.out.dt j hj))
      have n3 : ∀ w, (nilAhead 418 161 (.pointer (some ⟨it j, 0, none⟩)) "Last").run Tryz.prog w = .ok (some false) w := fun w => by kernel_rfl
      have m3 : ∀ w, (method 418 161 (.pointer (some ⟨it j, 0, none⟩)) "Last").run Tryz.prog w = .ok (195, .pointer (some ⟨it j, 0, none⟩)) w := fun w => by kernel_rfl
      have q3 : ∀ (args : Array Value) (w : World), (callFunc 195 args).run Tryz.prog w = .ok (.enter 195 args) w := fun args w => Go.MuLone.run_callFunc_enter Tryz.func195 (by kernel_rfl) rfl args w
      by_cases h0 : 0 < (LL.getD j []).length
      · rw [decide_eq_true h0] at HDN
        have hp0 : (if (LL.getD j []).length = 0 then 0 else ((LL.getD j []).length : Int) - 1) = ((LL.getD j []).length : Int) - 1 := by first | rfl | (rw [if_neg (by omega)])
        rw [hp0] at HDN
        have hon : onL (kvS (LL.getD j [])) (((LL.getD j []).length : Int) - 1) = true := by
          unfold onL
          rw [kvS_len, decide_eq_true (p := (0 : Int) ≤ (((LL.getD j []).length : Int) - 1)) (by omega), decide_eq_true (p := (((LL.getD j []).length : Int) - 1) < ((LL.getD j []).length : Int)) (by omega)]
          rfl
        have HYES : Hid (hdP (LL.getD j []) (((LL.getD j []).length : Int) - 1) = some (keyL (kvS (LL.getD j [])) (((LL.getD j []).length : Int) - 1))) := Lib.hid (by unfold hdP; rw [if_pos hon])
        have HBY := Lib.hid (keyL_byt (HE.out.2.2 _ hmem).2 (((LL.getD j []).length : Int) - 1))
        have HKEY := Lib.hid (show ∀ w1, DtN V LL m kb R w1 j (it j) (((LL.getD j []).length : Int) - 1) → Calls Tryz.prog 194 #[.pointer (some ⟨it j, 0, none⟩)] w1 fun e w' => DyTold V LL m kb R j (it j) (((LL.getD j []).length : Int) - 1) w1 e w' from fun w1 hd => dnKey HV.out (HE.out.2.2 _ hmem).1 (HE.out.2.2 _ hmem).2 hd hon)
        have n4 : ∀ w, (nilAhead 418 161 (.pointer (some ⟨it j, 0, none⟩)) "Key").run Tryz.prog w = .ok (some false) w := fun w => by kernel_rfl
        have m4 : ∀ w, (method 418 161 (.pointer (some ⟨it j, 0, none⟩)) "Key").run Tryz.prog w = .ok (194, .pointer (some ⟨it j, 0, none⟩)) w := fun w => by kernel_rfl
        have q4 : ∀ (args : Array Value) (w : World), (callFunc 194 args).run Tryz.prog w = .ok (.enter 194 args) w := fun args w => Go.MuLone.run_callFunc_enter Tryz.func194 (by kernel_rfl) rfl args w
        have HMV := Lib.hid (show ∀ (w1 : World) (p : Int), DtN V LL m kb R w1 j (it j) p → Fr wr w1 (fun q => q = it j) → MgS V LL k (some ad) kc m kb R it w1 (fun y => if y = j then p else pf2 y) ka2 i d from fun w1 p hd hf => HS.out.move hj hd hf)
        clear h0 hmem hj hp0 hon
        go_upto_region 11 with ((with_reducible refine HDN.out.mono ?_); rintro e w1 ⟨rfl, hd1, hf1⟩)
        have hdd : DtN V LL m kb R w1.drew j (it j) (((LL.getD j []).length : Int) - 1) := hd1.out.fr (Fr.of_below (below_drew (Below.refl _ _)) (fun _ => False)) (fun q _ e => e) (fun e => e)
        have hff : Fr wr w1.drew (fun q => q = it j) := hf1.out.then_ (Fr.of_below (below_drew (Below.refl _ _)) (fun _ => False)) (fun q e => e.elim)
        have HSD := Lib.hid (HMV.out _ _ hdd hff)
        have HK1 := Lib.hid (HKEY.out _ hdd)
        have HFF := Lib.hid hff
        have s3 : w1.drew.cell? ⟨m, 3, none⟩ = some (.slice (some ⟨kb, 0, none⟩) k k) := (blk_cell HSD.out.bm 3).trans rfl
        clear hdd hff hd1 hf1
        go_region_with (first
          | ((with_reducible refine HK1.out.mono ?_); rintro e w2 ⟨a2, c2, rfl, hF2, hd2, hf2⟩; have HS2 := Lib.hid (HMV.out w2 _ hd2.out (HFF.out.then_ hf2.out (fun q hq => .inl hq))); have t3 : w2.cell? ⟨m, 3, none⟩ = some (.slice (some ⟨kb, 0, none⟩) k k) := (blk_cell HS2.out.bm 3).trans rfl; have fk := blk_frozen HS2.out.bk j; have ck : ∃ v, w2.cell? ⟨kb, j, none⟩ = some v := ⟨_, (blk_cell HS2.out.bk j).trans (Array.getElem?_eq_getElem (by rw [HS2.out.sz]; exact HJL.out.1))⟩; obtain ⟨vk, ck⟩ := ck)
          | (go_at_call 220; (with_reducible refine (assert_calls _ _ _ _).mono ?_); rintro e wz ⟨rfl, rfl⟩))
        all_goals (
          rename_i K' hK'
          simp only [Exit.then, Exit.inBlock]
          refine hK' _ _ ?_
          go_wp2
          go_roundg (gk - 1)
          case measure => exact round_less HJL.out.1 HJL.out.2
          case rel =>
            refine ⟨j + 1, _, _, (by first | rfl | exact congrArg _ w1'), Lib.hid (round_next HJL.out.1 HJL.out.2), Lib.hid (HS2.out.setKey (x := j) _), Lib.hid ?_, Lib.hid ?_⟩
            · exact (HF.out.then_ (HFF.out.then_ hf2.out (fun q hq => .inl hq)) (fun q hq => .inl (.inr (.inr ⟨j, HJL.out.1, hq⟩)))).setCell (p := ⟨kb, j, none⟩) (.inl (.inr (.inl rfl))) _
            · refine HU.out.next (fun q hq hl => (Below.heap_setCell _ _ _ q (HS.out.nr q hq).2.1).trans ((HFF.out.then_ hf2.out (fun q hq => .inl hq)).block q hl (fun e => hd2.out.2.2.1 (by rw [← e]; exact hq)))) (by rw [HS.out.sz]; exact HJL.out.1) (.inr rfl) ?_
              rw [HYES.out]
              exact ⟨a2, c2, rfl, Kd.F_step hF2.out (fun q hq _ => Below.heap_setCell _ _ _ q (HS.out.nr q hq).2.1), HBY.out⟩)
      · rw [decide_eq_false h0] at HDN
        have HST := Lib.hid (show ∀ p : Int, (if (LL.getD j []).length = 0 then 0 else ((LL.getD j []).length : Int) - 1) = p → StP (LL.getD j []) p (((LL.getD j []).length : Int) - 1) from fun p hp => by first | (exact .inl (by omega)) | (exact .inr hp.symm))
        have HNO : Hid (hdP (LL.getD j []) (((LL.getD j []).length : Int) - 1) = none) := Lib.hid (by
          unfold hdP onL
          rw [kvS_len]
          first
            | (rw [decide_eq_false (p := (((LL.getD j []).length : Int) - 1) < ((LL.getD j []).length : Int)) (by omega), Bool.and_false]; rfl)
            | (rw [decide_eq_false (p := (0 : Int) ≤ (((LL.getD j []).length : Int) - 1)) (by omega), Bool.false_and]; rfl))
        have HMV := Lib.hid (show ∀ (w1 : World) (p : Int), DtN V LL m kb R w1 j (it j) p → Fr wr w1 (fun q => q = it j) → MgS V LL k (some ad) kc m kb R it w1 (fun y => if y = j then p else pf2 y) ka2 i d from fun w1 p hd hf => HS.out.move hj hd hf)
        clear h0 hmem hj
        go_wp2_with (first
          | ((with_reducible refine HDN.out.mono ?_); rintro e w1 ⟨rfl, hd1, hf1⟩; have HS1 := Lib.hid (HMV.out w1 _ hd1.out hf1.out); have s3 : w1.cell? ⟨m, 3, none⟩ = some (.slice (some ⟨kb, 0, none⟩) k k) := (blk_cell HS1.out.bm 3).trans rfl; have fk := blk_frozen HS1.out.bk j; have ck : ∃ v, w1.cell? ⟨kb, j, none⟩ = some v := ⟨_, (blk_cell HS1.out.bk j).trans (Array.getElem?_eq_getElem (by rw [HS1.out.sz]; exact HJL.out.1))⟩; obtain ⟨vk, ck⟩ := ck)
          | (go_at_call 221; (with_reducible refine (iterErr_calls hd1.out).mono ?_); rintro e wz ⟨rfl, rfl⟩))
        go_roundg (gk - 1)
        case measure => exact round_less HJL.out.1 HJL.out.2
        case rel =>
          refine ⟨j + 1, _, _, (by first | rfl | exact congrArg _ w1'), Lib.hid (round_next HJL.out.1 HJL.out.2), Lib.hid (HS1.out.setKey (x := j) (.slice none 0 0)), Lib.hid ?_, Lib.hid ?_⟩
          · exact (HF.out.then_ hf1.out (fun q hq => .inl (.inr (.inr ⟨j, HJL.out.1, hq⟩)))).setCell (p := ⟨kb, j, none⟩) (.inl (.inr (.inl rfl))) _
          · exact HU.out.next (fun q hq hl => (Below.heap_setCell _ _ _ q (HS.out.nr q hq).2.1).trans (hf1.out.block q hl (fun e => hd1.out.2.2.1 (by rw [← e]; exact hq)))) (by rw [HS.out.sz]; exact HJL.out.1) (HST.out _ rfl) (by rw [HNO.out]; rfl)
    · have z0 : decide ((j : Int) < (k : Int)) = false := decide_eq_false (by omega)
      have z2 : ¬ (j : Int) < (k : Int) := by omega
      have hjk : j = k := by have := HJ.out.1; omega
      rw [hjk] at HU
      have f5 := blk_frozen HS.out.bm 5
      have c5 : wr.cell? ⟨m, 5, none⟩ = some (.int .i64 d) := (blk_cell HS.out.bm 5).trans rfl
      have hfr := (Fr.refl wr (fun q => q = m)).setCell (p := ⟨m, 5, none⟩) (.inl rfl) (.int .i64 1)
      have HS5 := Lib.hid (HS.out.setDir hfr ((blk_set HS.out.bm 5 (.int .i64 1)).trans rfl))
      have HF5 := Lib.hid (HF.out.then_ hfr (fun q hq => .inl (.inl hq)))
      have HU5 := Lib.hid (show KyUp (wr.setCell ⟨m, 5, none⟩ (.int .i64 1)) LL R ka2 pf2 (fun y => ((LL.getD y []).length : Int) - 1) k from fun y hy => ⟨(HU.out y hy).1, by
        obtain ⟨v, h1, h2⟩ := (HU.out y hy).2
        exact ⟨v, h1, h2.step (fun q hq _ => Below.heap_setCell _ _ _ q (HS.out.nr q hq).1)⟩⟩)
      have HSC := Lib.hid (mgPrev_scan (hd := fun y => hdP (LL.getD y []) (((LL.getD y []).length : Int) - 1)) HV.out HS5.out.bm HS5.out.bk HS5.out.ne (fun q hq => (HS5.out.nr q hq).1) ⟨HS5.out.sz, fun y hy => (HU5.out y hy).2⟩ (fun e => by omega) HE.out.2.1)
      clear hfr hjk hj
      go_wp2_with (go_at_call 223; (with_reducible refine HSC.out.mono ?_); rintro e w6 ⟨bb, i6, rfl, hm6, hf6, hb6⟩)
      go_ret
      exact ⟨bb, pf2, ka2, i6, rfl, Lib.hid (HS5.out.setDir hf6.out hm6.out), Lib.hid (HF5.out.then_ hf6.out (fun q hq => .inl (.inl hq))), Lib.hid (fun y hy => ⟨(HU5.out y hy).1, by
        obtain ⟨v, h1, h2⟩ := (HU5.out y hy).2
        exact ⟨v, h1, h2.step (fun q hq hl => hf6.out.block q hl (HS5.out.nr q hq).1)⟩⟩), hb6⟩

set_option maxHeartbeats 12800000 in
set_option maxRecDepth 100000 in
theorem mgSeek_calls (hV : Cmpr V f) (hn : LL.length = k) (hl : k ≤ 4294967296) (hb : ∀ l ∈ LL, l.length ≤ 4294967296 ∧ ∀ x ∈ l, Byt x.f0) {B : Option Addr} {dd : Nat} {key : List Int} (hA : Kd.C (Kd.int .u8) w B key.length key) (hk : Byt key) (hne : 0 < key.length → ∀ a, B = some a → ¬ MgF k m kb it a.block) (h : MgS V LL k Ai kc m kb R it w pf ka i d) (hd : d ≠ -1) :
    Calls Tryz.prog 216 #[.pointer (some ⟨m, 0, none⟩), .slice B key.length dd] w fun e w' => MgTold f V LL k Ai kc m kb R it (fun y => (findL f key (kvS (LL.getD y [])) : Int)) (fun hd i o => Least f hd k k i o) 3 1 w e w' := by
  have r6 : w.cell? ⟨m, 6, none⟩ = some .nilIface := (blk_cell h.bm 6).trans rfl
  have r5 : w.cell? ⟨m, 5, none⟩ = some (.int .i64 d) := (blk_cell h.bm 5).trans rfl
  have r1 : w.cell? ⟨m, 1, none⟩ = some (.slice Ai k kc) := (blk_cell h.bm 1).trans rfl
  have y5 : (d == -1) = false := by rw [beq_eq_false_iff_ne]; exact hd
  have HH := Lib.hid h
  have HE := Lib.hid (And.intro hn (And.intro hl hb))
  have HV := Lib.hid hV
  have HKA := Lib.hid (And.intro hA (And.intro hk hne))
  clear hA hk hne
  clear h hd hn hb hV
  go_enter Tryz.func216, Tryz.ntmps216
  go_wp2
  go_loopg [26] k (fun kk vi w' => ∃ (j : Nat) (pf2 : Nat → Int) (ka2 : Array Value), vi = .int .i64 (j : Int) ∧ Hid (j ≤ k ∧ k ≤ j + kk) ∧ Hid (MgS V LL k Ai kc m kb R it w' pf2 ka2 i d) ∧ Hid (Fr w w' (MgF k m kb it)) ∧ Hid (KyUp w' LL R ka2 pf2 (fun y => (findL f key (kvS (LL.getD y [])) : Int)) j))
  case atStart => exact ⟨0, pf, ka, rfl, Lib.hid ⟨Nat.zero_le _, by omega⟩, HH, Lib.hid (Fr.refl _ _), Lib.hid (fun y hy => by omega)⟩
  case round =>
    obtain ⟨j, pf2, ka2, rfl, HJ, HS, HF, HU⟩ := hrel
    by_cases hj : j < k
    · have z0 : decide ((j : Int) < (k : Int)) = true := decide_eq_true (by omega)
      have z2 : (j : Int) < (k : Int) := by omega
      have HJL := Lib.hid (And.intro hj HJ.out.2)
      have w1' : wrap64 ((j : Int) + 1) = (j : Int) + 1 := wz (by omega) (by omega)
      obtain ⟨ad, rfl, c0, -⟩ := HS.out.itr j hj
      have hmem : LL.getD j [] ∈ LL := mem_at2 HE.out.1 hj
      have HDN := Lib.hid (dnSeek (d := dd) HV.out (HE.out.2.2 _ hmem).1 (HE.out.2.2 _ hmem).2 (HS.out.dt j hj) (HF.out.C HKA.out.1 HKA.out.2.2) HKA.out.2.1)
      have n3 : ∀ w, (nilAhead 418 161 (.pointer (some ⟨it j, 0, none⟩)) "Seek").run Tryz.prog w = .ok (some false) w := fun w => by kernel_rfl
      have m3 : ∀ w, (method 418 161 (.pointer (some ⟨it j, 0, none⟩)) "Seek").run Tryz.prog w = .ok (199, .pointer (some ⟨it j, 0, none⟩)) w := fun w => by kernel_rfl
      have q3 : ∀ (args : Array Value) (w : World), (callFunc 199 args).run Tryz.prog w = .ok (.enter 199 args) w := fun args w => Go.MuLone.run_callFunc_enter Tryz.func199 (by kernel_rfl) rfl args w
      by_cases h0 : findL f key (kvS (LL.getD j [])) < (LL.getD j []).length
      · rw [decide_eq_true h0] at HDN
        have hp0 : (findL f key (kvS (LL.getD j [])) : Int) = (findL f key (kvS (LL.getD j [])) : Int) := by first | rfl | (rw [if_neg (by omega)])
        rw [hp0] at HDN
        have hon : onL (kvS (LL.getD j [])) ((findL f key (kvS (LL.getD j [])) : Int)) = true := by
          unfold onL
          rw [kvS_len, decide_eq_true (p := (0 : Int) ≤ ((findL f key (kvS (LL.getD j [])) : Int))) (by omega), decide_eq_true (p := ((findL f key (kvS (LL.getD j [])) : Int)) < ((LL.getD j []).length : Int)) (by omega)]
          rfl
        have HYES : Hid (hdP (LL.getD j []) ((findL f key (kvS (LL.getD j [])) : Int)) = some (keyL (kvS (LL.getD j [])) ((findL f key (kvS (LL.getD j [])) : Int)))) := Lib.hid (by unfold hdP; rw [if_pos hon])
        have HBY := Lib.hid (keyL_byt (HE.out.2.2 _ hmem).2 ((findL f key (kvS (LL.getD j [])) : Int)))
        have HKEY := Lib.hid (show ∀ w1, DtN V LL m kb R w1 j (it j) ((findL f key (kvS (LL.getD j [])) : Int)) → Calls Tryz.prog 194 #[.pointer (some ⟨it j, 0, none⟩)] w1 fun e w' => DyTold V LL m kb R j (it j) ((findL f key (kvS (LL.getD j [])) : Int)) w1 e w' from fun w1 hd => dnKey HV.out (HE.out.2.2 _ hmem).1 (HE.out.2.2 _ hmem).2 hd hon)
        have n4 : ∀ w, (nilAhead 418 161 (.pointer (some ⟨it j, 0, none⟩)) "Key").run Tryz.prog w = .ok (some false) w := fun w => by kernel_rfl
        have m4 : ∀ w, (method 418 161 (.pointer (some ⟨it j, 0, none⟩)) "Key").run Tryz.prog w = .ok (194, .pointer (some ⟨it j, 0, none⟩)) w := fun w => by kernel_rfl
        have q4 : ∀ (args : Array Value) (w : World), (callFunc 194 args).run Tryz.prog w = .ok (.enter 194 args) w := fun args w => Go.MuLone.run_callFunc_enter Tryz.func194 (by kernel_rfl) rfl args w
        have HMV := Lib.hid (show ∀ (w1 : World) (p : Int), DtN V LL m kb R w1 j (it j) p → Fr wr w1 (fun q => q = it j) → MgS V LL k (some ad) kc m kb R it w1 (fun y => if y = j then p else pf2 y) ka2 i d from fun w1 p hd hf => HS.out.move hj hd hf)
        clear h0 hmem hj hp0 hon
        go_upto_region 11 with ((with_reducible refine HDN.out.mono ?_); rintro e w1 ⟨rfl, hd1, hf1⟩)
        have hdd : DtN V LL m kb R w1.drew j (it j) ((findL f key (kvS (LL.getD j [])) : Int)) := hd1.out.fr (Fr.of_below (below_drew (Below.refl _ _)) (fun _ => False)) (fun q _ e => e) (fun e => e)
        have hff : Fr wr w1.drew (fun q => q = it j) := hf1.out.then_ (Fr.of_below (below_drew (Below.refl _ _)) (fun _ => False)) (fun q e => e.elim)
        have HSD := Lib.hid (HMV.out _ _ hdd hff)
        have HK1 := Lib.hid (HKEY.out _ hdd)
        have HFF := Lib.hid hff
        have s3 : w1.drew.cell? ⟨m, 3, none⟩ = some (.slice (some ⟨kb, 0, none⟩) k k) := (blk_cell HSD.out.bm 3).trans rfl
        clear hdd hff hd1 hf1
        go_region_with (first
          | ((with_reducible refine HK1.out.mono ?_); rintro e w2 ⟨a2, c2, rfl, hF2, hd2, hf2⟩; have HS2 := Lib.hid (HMV.out w2 _ hd2.out (HFF.out.then_ hf2.out (fun q hq => .inl hq))); have t3 : w2.cell? ⟨m, 3, none⟩ = some (.slice (some ⟨kb, 0, none⟩) k k) := (blk_cell HS2.out.bm 3).trans rfl; have fk := blk_frozen HS2.out.bk j; have ck : ∃ v, w2.cell? ⟨kb, j, none⟩ = some v := ⟨_, (blk_cell HS2.out.bk j).trans (Array.getElem?_eq_getElem (by rw [HS2.out.sz]; exact HJL.out.1))⟩; obtain ⟨vk, ck⟩ := ck)
          | (go_at_call 220; (with_reducible refine (assert_calls _ _ _ _).mono ?_); rintro e wz ⟨rfl, rfl⟩))
        all_goals (
          rename_i K' hK'
          simp only [Exit.then, Exit.inBlock]
          refine hK' _ _ ?_
          go_wp2
          go_roundg (gk - 1)
          case measure => exact round_less HJL.out.1 HJL.out.2
          case rel =>
            refine ⟨j + 1, _, _, (by first | rfl | exact congrArg _ w1'), Lib.hid (round_next HJL.out.1 HJL.out.2), Lib.hid (HS2.out.setKey (x := j) _), Lib.hid ?_, Lib.hid ?_⟩
            · exact (HF.out.then_ (HFF.out.then_ hf2.out (fun q hq => .inl hq)) (fun q hq => .inl (.inr (.inr ⟨j, HJL.out.1, hq⟩)))).setCell (p := ⟨kb, j, none⟩) (.inl (.inr (.inl rfl))) _
            · refine HU.out.next (fun q hq hl => (Below.heap_setCell _ _ _ q (HS.out.nr q hq).2.1).trans ((HFF.out.then_ hf2.out (fun q hq => .inl hq)).block q hl (fun e => hd2.out.2.2.1 (by rw [← e]; exact hq)))) (by rw [HS.out.sz]; exact HJL.out.1) (.inr rfl) ?_
              rw [HYES.out]
              exact ⟨a2, c2, rfl, Kd.F_step hF2.out (fun q hq _ => Below.heap_setCell _ _ _ q (HS.out.nr q hq).2.1), HBY.out⟩)
      · rw [decide_eq_false h0] at HDN
        have HST := Lib.hid (show ∀ p : Int, (findL f key (kvS (LL.getD j [])) : Int) = p → StP (LL.getD j []) p ((findL f key (kvS (LL.getD j [])) : Int)) from fun p hp => by first | (exact .inl (by omega)) | (exact .inr hp.symm))
        have HNO : Hid (hdP (LL.getD j []) ((findL f key (kvS (LL.getD j [])) : Int)) = none) := Lib.hid (by
          unfold hdP onL
          rw [kvS_len]
          first
            | (rw [decide_eq_false (p := ((findL f key (kvS (LL.getD j [])) : Int)) < ((LL.getD j []).length : Int)) (by omega), Bool.and_false]; rfl)
            | (rw [decide_eq_false (p := (0 : Int) ≤ ((findL f key (kvS (LL.getD j [])) : Int))) (by omega), Bool.false_and]; rfl))
        have HMV := Lib.hid (show ∀ (w1 : World) (p : Int), DtN V LL m kb R w1 j (it j) p → Fr wr w1 (fun q => q = it j) → MgS V LL k (some ad) kc m kb R it w1 (fun y => if y = j then p else pf2 y) ka2 i d from fun w1 p hd hf => HS.out.move hj hd hf)
        clear h0 hmem hj
        go_wp2_with (first
          | ((with_reducible refine HDN.out.mono ?_); rintro e w1 ⟨rfl, hd1, hf1⟩; have HS1 := Lib.hid (HMV.out w1 _ hd1.out hf1.out); have s3 : w1.cell? ⟨m, 3, none⟩ = some (.slice (some ⟨kb, 0, none⟩) k k) := (blk_cell HS1.out.bm 3).trans rfl; have fk := blk_frozen HS1.out.bk j; have ck : ∃ v, w1.cell? ⟨kb, j, none⟩ = some v := ⟨_, (blk_cell HS1.out.bk j).trans (Array.getElem?_eq_getElem (by rw [HS1.out.sz]; exact HJL.out.1))⟩; obtain ⟨vk, ck⟩ := ck)
          | (go_at_call 221; (with_reducible refine (iterErr_calls hd1.out).mono ?_); rintro e wz ⟨rfl, rfl⟩))
        go_roundg (gk - 1)
        case measure => exact round_less HJL.out.1 HJL.out.2
        case rel =>
          refine ⟨j + 1, _, _, (by first | rfl | exact congrArg _ w1'), Lib.hid (round_next HJL.out.1 HJL.out.2), Lib.hid (HS1.out.setKey (x := j) (.slice none 0 0)), Lib.hid ?_, Lib.hid ?_⟩
          · exact (HF.out.then_ hf1.out (fun q hq => .inl (.inr (.inr ⟨j, HJL.out.1, hq⟩)))).setCell (p := ⟨kb, j, none⟩) (.inl (.inr (.inl rfl))) _
          · exact HU.out.next (fun q hq hl => (Below.heap_setCell _ _ _ q (HS.out.nr q hq).2.1).trans (hf1.out.block q hl (fun e => hd1.out.2.2.1 (by rw [← e]; exact hq)))) (by rw [HS.out.sz]; exact HJL.out.1) (HST.out _ rfl) (by rw [HNO.out]; rfl)
    · have z0 : decide ((j : Int) < (k : Int)) = false := decide_eq_false (by omega)
      have z2 : ¬ (j : Int) < (k : Int) := by omega
      have hjk : j = k := by have := HJ.out.1; omega
      rw [hjk] at HU
      have f5 := blk_frozen HS.out.bm 5
      have c5 : wr.cell? ⟨m, 5, none⟩ = some (.int .i64 d) := (blk_cell HS.out.bm 5).trans rfl
      have hfr := (Fr.refl wr (fun q => q = m)).setCell (p := ⟨m, 5, none⟩) (.inl rfl) (.int .i64 0)
      have HS5 := Lib.hid (HS.out.setDir hfr ((blk_set HS.out.bm 5 (.int .i64 0)).trans rfl))
      have HF5 := Lib.hid (HF.out.then_ hfr (fun q hq => .inl (.inl hq)))
      have HU5 := Lib.hid (show KyUp (wr.setCell ⟨m, 5, none⟩ (.int .i64 0)) LL R ka2 pf2 (fun y => (findL f key (kvS (LL.getD y [])) : Int)) k from fun y hy => ⟨(HU.out y hy).1, by
        obtain ⟨v, h1, h2⟩ := (HU.out y hy).2
        exact ⟨v, h1, h2.step (fun q hq _ => Below.heap_setCell _ _ _ q (HS.out.nr q hq).1)⟩⟩)
      have HSC := Lib.hid (mgNext_scan (hd := fun y => hdP (LL.getD y []) ((findL f key (kvS (LL.getD y [])) : Int))) HV.out HS5.out.bm HS5.out.bk HS5.out.ne (fun q hq => (HS5.out.nr q hq).1) ⟨HS5.out.sz, fun y hy => (HU5.out y hy).2⟩ (fun e => by omega) HE.out.2.1)
      clear hfr hjk hj
      go_wp2_with (go_at_call 222; (with_reducible refine HSC.out.mono ?_); rintro e w6 ⟨bb, i6, rfl, hm6, hf6, hb6⟩)
      go_ret
      exact ⟨bb, pf2, ka2, i6, rfl, Lib.hid (HS5.out.setDir hf6.out hm6.out), Lib.hid (HF5.out.then_ hf6.out (fun q hq => .inl (.inl hq))), Lib.hid (fun y hy => ⟨(HU5.out y hy).1, by
        obtain ⟨v, h1, h2⟩ := (HU5.out y hy).2
        exact ⟨v, h1, h2.step (fun q hq hl => hf6.out.block q hl (HS5.out.nr q hq).1)⟩⟩), hb6⟩
end

end Go.Proofs.YtdkkkikcigjlhaaGreatDoor.Md
