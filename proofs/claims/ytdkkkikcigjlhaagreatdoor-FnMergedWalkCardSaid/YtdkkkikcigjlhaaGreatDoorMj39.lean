/- An iterator that merges iterators: what the scans find, in terms of all pairs; pure. An iterator that merges iterators: its place among all pairs; First, Last, Seek as a cursor's moves. An iterator that merges iterators: Valid, Error, Key. An iterator that merges iterators: Key. An iterator that merges iterators: Value. An iterator that merges iterators: Value. -/
import Derived.Test.YtdkkkikcigjlhaaGreatDoorMj38
set_option linter.unusedVariables false
set_option linter.unusedSimpArgs false
namespace Go.Proofs.YtdkkkikcigjlhaaGreatDoor.Md
open Go.Proofs.YtdkkkikcigjlhaaGreatDoor.PFnMemMap

section
variable {f : List Int → List Int → Int} {LL : List (List S44)} {L : List KV} {k c : Nat} {i : Int} {o : Option (List Int)}

theorem hdP_at {l : List S44} {p : Nat} (h : p < l.length) : hdP l (p : Int) = some (gK (kvS l) p).1 := by
  have ho : onL (kvS l) (p : Int) = true := by
    unfold onL
    rw [kvS_len, decide_eq_true (p := (0 : Int) ≤ (p : Int)) (by omega), decide_eq_true (p := (p : Int) < (l.length : Int)) (by omega)]
    rfl
  unfold hdP
  rw [if_pos ho]
  unfold keyL
  rw [if_pos ho, Int.toNat_natCast]
  rfl
theorem hdP_off {l : List S44} {p : Int} (h : p < 0 ∨ (l.length : Int) ≤ p) : hdP l p = none := by
  unfold hdP onL
  rw [kvS_len]
  rcases h with h | h
  · rw [decide_eq_false (p := (0 : Int) ≤ p) (by omega), Bool.false_and]; rfl
  · rw [decide_eq_false (p := p < (l.length : Int)) (by omega), Bool.and_false]; rfl
theorem hdP_some {l : List S44} {p : Int} {key : List Int} (h : hdP l p = some key) : ∃ n : Nat, p = (n : Int) ∧ n < l.length ∧ key = (gK (kvS l) n).1 := by
  by_cases q : p < 0 ∨ (l.length : Int) ≤ p
  · rw [hdP_off q] at h; cases h
  · obtain ⟨n, rfl⟩ : ∃ n : Nat, p = (n : Int) := ⟨p.toNat, by omega⟩
    rw [hdP_at (by omega)] at h
    injection h with h
    exact ⟨n, rfl, by omega, h.symm⟩

def tgF (f : List Int → List Int → Int) (L : List KV) (LL : List (List S44)) (c : Nat) (y : Nat) : Int := (cntG f L (LL.getD y []) c : Int)
def tgB (f : List Int → List Int → Int) (L : List KV) (LL : List (List S44)) (c : Nat) (y : Nat) : Int := (cntG f L (LL.getD y []) c : Int) - 1

theorem least_at (h : Mg f LL L) (hk : LL.length = k) (hl : Least f (fun y => hdP (LL.getD y []) (tgF f L LL c y)) k k i o) :
    (c < L.length → ∃ x : Nat, i = (x : Int) ∧ x < k ∧ o = some (gK L c).1 ∧ hdP (LL.getD x []) (tgF f L LL c x) = some (gK L c).1) ∧ (L.length ≤ c → o = none) := by
  refine ⟨fun hc => ?_, fun hc => ?_⟩
  · obtain ⟨x, hx, h1, h2, -, -⟩ := h.who hc
    have hx0 : hdP (LL.getD x []) (tgF f L LL c x) = some (gK L c).1 := by
      unfold tgF
      rw [hdP_at h1, h2]
    cases o with
    | none =>
      have h9 := hx0.symm.trans (hl x (by omega))
      cases h9
    | some key =>
      obtain ⟨⟨n, rfl, hn, hn2⟩, hl2⟩ := hl
      have h3 := hl2 x (by omega) _ hx0
      obtain ⟨p, hp1, hp2, hp3⟩ := hdP_some hn2
      have hp4 : cntG f L (LL.getD n []) c = p := by unfold tgF at hp1; omega
      have h4 := h.head (x := n) (by omega) hc (by omega)
      rw [hp4, ← hp3] at h4
      have e : key = (gK L c).1 := by
        rcases not_less h.ord h3 with q | q
        · exact absurd q h4
        · exact q
      exact ⟨n, rfl, hn, by rw [e], by rw [← e]; exact hn2⟩
  · cases o with
    | none => rfl
    | some key =>
      obtain ⟨⟨n, rfl, hn, hn2⟩, -⟩ := hl
      obtain ⟨p, hp1, hp2, -⟩ := hdP_some hn2
      unfold tgF at hp1
      rw [cnt_end _ hc] at hp1
      omega

theorem most_at (h : Mg f LL L) (hk : LL.length = k) (hl : Most f (fun y => hdP (LL.getD y []) (tgB f L LL c y)) k k i o) :
    (∀ e, c = e + 1 → e < L.length → ∃ x : Nat, i = (x : Int) ∧ x < k ∧ o = some (gK L e).1 ∧ hdP (LL.getD x []) (tgB f L LL c x) = some (gK L e).1) ∧ (c = 0 → o = none) := by
  refine ⟨fun e he hc => ?_, fun hc => ?_⟩
  · subst he
    obtain ⟨x, hx, h1, h2, h3, -⟩ := h.who hc
    have hx0 : hdP (LL.getD x []) (tgB f L LL (e + 1) x) = some (gK L e).1 := by
      unfold tgB
      rw [h3, show ((cntG f L (LL.getD x []) e + 1 : Nat) : Int) - 1 = ((cntG f L (LL.getD x []) e : Nat) : Int) by omega, hdP_at h1, h2]
    cases o with
    | none =>
      have h9 := hx0.symm.trans (hl x (by omega))
      cases h9
    | some key =>
      obtain ⟨⟨n, rfl, hn, hn2⟩, hl2⟩ := hl
      have h4 := hl2 x (by omega) _ hx0
      obtain ⟨p, hp1, hp2, hp3⟩ := hdP_some hn2
      have h5 := h.tail (x := n) (p := p) (by omega) hc (by unfold tgB at hp1; omega)
      rw [← hp3] at h5
      have e1 : key = (gK L e).1 := by
        rcases not_less h.ord h5 with q | q
        · exfalso
          have := h.ord.swap (gK L e).1 key
          omega
        · exact q
      exact ⟨n, rfl, hn, by rw [e1], by rw [← e1]; exact hn2⟩
  · subst hc
    cases o with
    | none => rfl
    | some key =>
      obtain ⟨⟨n, rfl, hn, hn2⟩, -⟩ := hl
      obtain ⟨p, hp1, hp2, -⟩ := hdP_some hn2
      unfold tgB at hp1
      rw [h.zero (by omega)] at hp1
      omega
end

end Go.Proofs.YtdkkkikcigjlhaaGreatDoor.Md

namespace Go.Proofs.YtdkkkikcigjlhaaGreatDoor.Md
open Go.RowKit Go.Proofs.YtdkkkikcigjlhaaGreatDoor.Con Go.Proofs.YtdkkkikcigjlhaaGreatDoor.Run Go.Proofs.YtdkkkikcigjlhaaGreatDoorW.PrintWords Go.Proofs.YtdkkkikcigjlhaaGreatDoorW.PrintMore Go.Proofs.YtdkkkikcigjlhaaGreatDoor.Cmp Go.Sort Go.RwLone Go.Proofs.YtdkkkikcigjlhaaGreatDoor.PFnMemMap

def MgFw (f : List Int → List Int → Int) (LL : List (List S44)) (L : List KV) (k : Nat) (R : Nat → Prop) (w : World) (pf : Nat → Int) (ka : Array Value) (i : Int) (c : Nat) : Prop :=
  KyUp w LL R ka pf (tgF f L LL c) k ∧ ∃ x : Nat, i = (x : Int) ∧ x < k ∧ hdP (LL.getD x []) (tgF f L LL c x) = some (gK L c).1
def MgBw (f : List Int → List Int → Int) (LL : List (List S44)) (L : List KV) (k : Nat) (R : Nat → Prop) (w : World) (pf : Nat → Int) (ka : Array Value) (i : Int) (c : Nat) : Prop :=
  KyUp w LL R ka pf (tgB f L LL (c + 1)) k ∧ ∃ x : Nat, i = (x : Int) ∧ x < k ∧ hdP (LL.getD x []) (tgB f L LL (c + 1) x) = some (gK L c).1
def MgPl (f : List Int → List Int → Int) (V : Value) (LL : List (List S44)) (L : List KV) (k : Nat) (Ai : Option Addr) (kc m kb : Nat) (R : Nat → Prop) (it : Nat → Nat) (w : World) (t : Int) : Prop :=
  ∃ pf ka i d, MgS V LL k Ai kc m kb R it w pf ka i d ∧
    ((∃ c, c < L.length ∧ t = (c : Int) ∧ d = 3 ∧ MgFw f LL L k R w pf ka i c) ∨ (∃ c, c < L.length ∧ t = (c : Int) ∧ d = 2 ∧ MgBw f LL L k R w pf ka i c) ∨ (d = 0 ∧ t = -1) ∨ (d = 1 ∧ t = (L.length : Int)))
def MgMv (f : List Int → List Int → Int) (V : Value) (LL : List (List S44)) (L : List KV) (k : Nat) (Ai : Option Addr) (kc m kb : Nat) (R : Nat → Prop) (it : Nat → Nat) (t : Int) (w : World) (e : Ending) (w' : World) : Prop :=
  ∃ bb, e = .returned (.bool bb) ∧ Hid (bb = onL L t) ∧ Hid (MgPl f V LL L k Ai kc m kb R it w' t) ∧ Hid (Fr w w' (MgF k m kb it))

section
variable {V : Value} {f : List Int → List Int → Int} {LL : List (List S44)} {L : List KV} {k : Nat} {Ai : Option Addr} {kc m kb : Nat} {R : Nat → Prop} {it : Nat → Nat} {w w1 : World} {pf : Nat → Int} {ka : Array Value} {i d t : Int} {c : Nat}

theorem KyUp.congr {t1 t2 : Nat → Int} {j : Nat} (h : KyUp w LL R ka pf t1 j) (e : ∀ y, y < j → t1 y = t2 y) : KyUp w LL R ka pf t2 j := fun y hy => by rw [← e y hy]; exact h y hy
theorem least_congr {h1 h2 : Nat → Option (List Int)} {o : Option (List Int)} (h : Least f h1 k k i o) (e : ∀ y, y < k → h1 y = h2 y) : Least f h2 k k i o := by
  cases o with
  | none => exact fun x hx => by rw [← e x hx]; exact h x hx
  | some key =>
    obtain ⟨⟨n, rfl, hn, h3⟩, h4⟩ := h
    exact ⟨⟨n, rfl, hn, by rw [← e n hn]; exact h3⟩, fun x hx k2 h5 => h4 x hx k2 (by rw [e x hx]; exact h5)⟩
theorem most_congr {h1 h2 : Nat → Option (List Int)} {o : Option (List Int)} (h : Most f h1 k k i o) (e : ∀ y, y < k → h1 y = h2 y) : Most f h2 k k i o := by
  cases o with
  | none => exact fun x hx => by rw [← e x hx]; exact h x hx
  | some key =>
    obtain ⟨⟨n, rfl, hn, h3⟩, h4⟩ := h
    exact ⟨⟨n, rfl, hn, by rw [← e n hn]; exact h3⟩, fun x hx k2 h5 => h4 x hx k2 (by rw [e x hx]; exact h5)⟩
theorem on_at (hc : c < L.length) : onL L (c : Int) = true := by
  unfold onL
  rw [decide_eq_true (p := (0 : Int) ≤ (c : Int)) (by omega), decide_eq_true (p := (c : Int) < (L.length : Int)) (by omega)]
  rfl
theorem on_len : onL L (L.length : Int) = false := by
  unfold onL
  rw [decide_eq_false (p := (L.length : Int) < (L.length : Int)) (by omega), Bool.and_false]

theorem mg_fw (hM : Mg f LL L) (hn : LL.length = k) {tgt : Nat → Int} (he : ∀ y, y < k → tgt y = tgF f L LL c y) (hc : c ≤ L.length) {e : Ending} {w' : World}
    (h : MgTold f V LL k Ai kc m kb R it tgt (fun hd i o => Least f hd k k i o) 3 1 w e w') : MgMv f V LL L k Ai kc m kb R it (c : Int) w e w' := by
  obtain ⟨bb, pf, ka, i, rfl, hS, hF, hU, hB⟩ := h
  have hU2 := hU.out.congr he
  have hcg : ∀ y, y < k → hdP (LL.getD y []) (tgt y) = hdP (LL.getD y []) (tgF f L LL c y) := fun y hy => by rw [he y hy]
  cases bb with
  | true =>
    obtain ⟨key, hK⟩ := hB.out
    have h2 := least_at hM hn (c := c) (least_congr hK hcg)
    rcases Nat.lt_or_ge c L.length with q | q
    · obtain ⟨x, h3, h4, h5, h6⟩ := h2.1 q
      exact ⟨true, rfl, Lib.hid (on_at q).symm, Lib.hid ⟨pf, ka, i, 3, hS.out, .inl ⟨c, q, rfl, rfl, hU2, x, h3, h4, h6⟩⟩, hF⟩
    · have := h2.2 q
      cases this
  | false =>
    have h2 := least_at hM hn (c := c) (least_congr (i := i) (o := none) (show Least f (fun y => hdP (LL.getD y []) (tgt y)) k k i none from hB.out) hcg)
    rcases Nat.lt_or_ge c L.length with q | q
    · obtain ⟨x, h3, h4, h5, h6⟩ := h2.1 q
      cases h5
    · have e : c = L.length := by omega
      subst e
      exact ⟨false, rfl, Lib.hid on_len.symm, Lib.hid ⟨pf, ka, i, 1, hS.out, .inr (.inr (.inr ⟨rfl, rfl⟩))⟩, hF⟩
theorem mg_bw (hM : Mg f LL L) (hn : LL.length = k) {tgt : Nat → Int} (he : ∀ y, y < k → tgt y = tgB f L LL c y) (hc : c ≤ L.length) {e : Ending} {w' : World}
    (h : MgTold f V LL k Ai kc m kb R it tgt (fun hd i o => Most f hd k k i o) 2 0 w e w') : MgMv f V LL L k Ai kc m kb R it ((c : Int) - 1) w e w' := by
  obtain ⟨bb, pf, ka, i, rfl, hS, hF, hU, hB⟩ := h
  have hU2 := hU.out.congr he
  have hcg : ∀ y, y < k → hdP (LL.getD y []) (tgt y) = hdP (LL.getD y []) (tgB f L LL c y) := fun y hy => by rw [he y hy]
  cases bb with
  | true =>
    obtain ⟨key, hK⟩ := hB.out
    have h2 := most_at hM hn (c := c) (most_congr hK hcg)
    rcases c with _ | c
    · have := h2.2 rfl
      cases this
    · obtain ⟨x, h3, h4, h5, h6⟩ := h2.1 c rfl (by omega)
      have e1 : ((c + 1 : Nat) : Int) - 1 = (c : Int) := by omega
      rw [e1]
      exact ⟨true, rfl, Lib.hid (on_at (by omega)).symm, Lib.hid ⟨pf, ka, i, 2, hS.out, .inr (.inl ⟨c, by omega, rfl, rfl, hU2, x, h3, h4, h6⟩)⟩, hF⟩
  | false =>
    have h2 := most_at hM hn (c := c) (most_congr (i := i) (o := none) (show Most f (fun y => hdP (LL.getD y []) (tgt y)) k k i none from hB.out) hcg)
    rcases c with _ | c
    · exact ⟨false, rfl, Lib.hid (on_begin L).symm, Lib.hid ⟨pf, ka, i, 0, hS.out, .inr (.inr (.inl ⟨rfl, rfl⟩))⟩, hF⟩
    · obtain ⟨x, h3, h4, h5, h6⟩ := h2.1 c rfl (by omega)
      cases h5

theorem MgPl.open_ (h : MgPl f V LL L k Ai kc m kb R it w t) : ∃ pf ka i d, MgS V LL k Ai kc m kb R it w pf ka i d ∧ d ≠ -1 := by
  obtain ⟨pf, ka, i, d, h1, ⟨c, -, -, rfl, -⟩ | ⟨c, -, -, rfl, -⟩ | ⟨rfl, -⟩ | ⟨rfl, -⟩⟩ := h <;> exact ⟨pf, ka, i, _, h1, by decide⟩

theorem mgFirst_mv (hV : Cmpr V f) (hM : Mg f LL L) (hn : LL.length = k) (hl : k ≤ 4294967296) (hb : ∀ l ∈ LL, l.length ≤ 4294967296 ∧ ∀ x ∈ l, Byt x.f0) (h : MgPl f V LL L k Ai kc m kb R it w t) :
    Calls Tryz.prog 210 #[.pointer (some ⟨m, 0, none⟩)] w fun e w' => MgMv f V LL L k Ai kc m kb R it 0 w e w' := by
  obtain ⟨pf, ka, i, d, h1, h2⟩ := h.open_
  refine (mgFirst_calls hV hn hl hb h1 h2).mono ?_
  intro e w' h3
  exact mg_fw (c := 0) hM hn (fun y hy => by unfold tgF; rw [hM.zero (by omega)]; rfl) (Nat.zero_le _) h3
theorem mgLast_mv (hV : Cmpr V f) (hM : Mg f LL L) (hn : LL.length = k) (hl : k ≤ 4294967296) (hb : ∀ l ∈ LL, l.length ≤ 4294967296 ∧ ∀ x ∈ l, Byt x.f0) (h : MgPl f V LL L k Ai kc m kb R it w t) :
    Calls Tryz.prog 212 #[.pointer (some ⟨m, 0, none⟩)] w fun e w' => MgMv f V LL L k Ai kc m kb R it ((L.length : Int) - 1) w e w' := by
  obtain ⟨pf, ka, i, d, h1, h2⟩ := h.open_
  refine (mgLast_calls hV hn hl hb h1 h2).mono ?_
  intro e w' h3
  exact mg_bw (c := L.length) hM hn (fun y hy => by unfold tgB; rw [cnt_end _ (Nat.le_refl _)]) (Nat.le_refl _) h3
theorem mgSeek_mv (hV : Cmpr V f) (hM : Mg f LL L) (hn : LL.length = k) (hl : k ≤ 4294967296) (hb : ∀ l ∈ LL, l.length ≤ 4294967296 ∧ ∀ x ∈ l, Byt x.f0) {B : Option Addr} {dd : Nat} {key : List Int} (hA : Kd.C (Kd.int .u8) w B key.length key) (hk : Byt key) (hne : 0 < key.length → ∀ a, B = some a → ¬ MgF k m kb it a.block) (h : MgPl f V LL L k Ai kc m kb R it w t) :
    Calls Tryz.prog 216 #[.pointer (some ⟨m, 0, none⟩), .slice B key.length dd] w fun e w' => MgMv f V LL L k Ai kc m kb R it (findL f key L : Int) w e w' := by
  obtain ⟨pf, ka, i, d, h1, h2⟩ := h.open_
  refine (mgSeek_calls hV hn hl hb hA hk hne h1 h2).mono ?_
  intro e w' h3
  exact mg_fw (c := findL f key L) hM hn (fun y hy => by unfold tgF; rw [hM.seek (by omega)]) (findL_le _ _ _) h3
end

end Go.Proofs.YtdkkkikcigjlhaaGreatDoor.Md

namespace Go.Proofs.YtdkkkikcigjlhaaGreatDoor.Md
open Go.RowKit Go.Proofs.YtdkkkikcigjlhaaGreatDoor.Con Go.Proofs.YtdkkkikcigjlhaaGreatDoor.Run Go.Proofs.YtdkkkikcigjlhaaGreatDoorW.PrintWords Go.Proofs.YtdkkkikcigjlhaaGreatDoorW.PrintMore Go.Proofs.YtdkkkikcigjlhaaGreatDoor.Cmp Go.Sort Go.RwLone Go.Proofs.YtdkkkikcigjlhaaGreatDoor.PFnMemMap

section
variable {V : Value} {f : List Int → List Int → Int} {LL : List (List S44)} {L : List KV} {k : Nat} {Ai : Option Addr} {kc m kb : Nat} {R : Nat → Prop} {it : Nat → Nat} {w w1 : World} {pf : Nat → Int} {ka : Array Value} {i d t : Int} {c : Nat}

theorem DtN.keep {q x : Nat} {p : Int} (h : DtN V LL m kb R w q x p) (hk : ∀ b, R b ∨ b = x → w1.heap[b]? = w.heap[b]?) (hs : w.heap.size ≤ w1.heap.size) : DtN V LL m kb R w1 q x p := by
  obtain ⟨h1, h2, h3, A1, c1, pos2, k1, v1, h4, h5, h6⟩ := h
  exact ⟨h1, h2, h3, A1, c1, pos2, k1, v1, h4.keep hk hs, Kd.F_step h5 (fun b hb _ => hk b (.inl hb)), h6⟩
theorem MgS.keep (h : MgS V LL k Ai kc m kb R it w pf ka i d) (hk : ∀ b, MgF k m kb it b ∨ R b → w1.heap[b]? = w.heap[b]?) (hs : w.heap.size ≤ w1.heap.size) : MgS V LL k Ai kc m kb R it w1 pf ka i d := by
  refine ⟨(hk m (.inl (.inl rfl))).trans h.bm, (hk kb (.inl (.inr (.inl rfl)))).trans h.bk, h.sz, fun y hy => ?_, fun y hy => (h.dt y hy).keep (fun b hb => hk b (hb.elim .inr (fun e => .inl (.inr (.inr ⟨y, hy, e⟩))))) hs, h.inj, h.ne, fun q hq => ⟨(h.nr q hq).1, (h.nr q hq).2.1, Nat.lt_of_lt_of_le (h.nr q hq).2.2 hs⟩⟩
  obtain ⟨ad, h1, h2, h3⟩ := h.itr y hy
  refine ⟨ad, h1, ?_, h3⟩
  unfold World.cell? at h2 ⊢
  rw [hk _ (.inr h3)]
  exact h2
theorem KyUp.keep {tgt : Nat → Int} {j : Nat} (h : KyUp w LL R ka pf tgt j) (hk : ∀ b, R b → w1.heap[b]? = w.heap[b]?) : KyUp w1 LL R ka pf tgt j := fun y hy => ⟨(h y hy).1, by
  obtain ⟨v, h1, h2⟩ := (h y hy).2
  exact ⟨v, h1, h2.step (fun q hq _ => hk q hq)⟩⟩
theorem MgPl.keep (h : MgPl f V LL L k Ai kc m kb R it w t) (hk : ∀ b, MgF k m kb it b ∨ R b → w1.heap[b]? = w.heap[b]?) (hs : w.heap.size ≤ w1.heap.size) : MgPl f V LL L k Ai kc m kb R it w1 t := by
  obtain ⟨pf, ka, i, d, h1, h2⟩ := h
  refine ⟨pf, ka, i, d, h1.keep hk hs, ?_⟩
  rcases h2 with ⟨c, a1, a2, a3, a4, a5⟩ | ⟨c, a1, a2, a3, a4, a5⟩ | h2 | h2
  · exact .inl ⟨c, a1, a2, a3, a4.keep (fun b hb => hk b (.inr hb)), a5⟩
  · exact .inr (.inl ⟨c, a1, a2, a3, a4.keep (fun b hb => hk b (.inr hb)), a5⟩)
  · exact .inr (.inr (.inl h2))
  · exact .inr (.inr (.inr h2))
theorem MgPl.top (h : MgPl f V LL L k Ai kc m kb R it w t) : ∀ b, MgF k m kb it b ∨ R b → b < w.heap.size := by
  obtain ⟨pf, ka, i, d, h1, -⟩ := h
  rintro b ((rfl | rfl | ⟨y, hy, rfl⟩) | hb)
  · exact blk_lt h1.bm
  · exact blk_lt h1.bk
  · obtain ⟨-, -, -, _, _, _, _, _, h4, -, -⟩ := h1.dt y hy
    exact blk_lt h4.blk
  · exact (h1.nr b hb).2.2
theorem keyL_gK (hc : c < L.length) : keyL L (c : Int) = (gK L c).1 := by
  unfold keyL
  rw [if_pos (on_at hc), Int.toNat_natCast]
  rfl

set_option maxHeartbeats 1600000 in
theorem mgError_calls (h : MgPl f V LL L k Ai kc m kb R it w t) :
    Calls Tryz.prog 209 #[.pointer (some ⟨m, 0, none⟩)] w fun e w' => e = .returned .nilIface ∧ w = w' := by
  obtain ⟨pf, ka, i, d, h1, -⟩ := h
  have r6 : w.cell? ⟨m, 6, none⟩ = some .nilIface := (blk_cell h1.bm 6).trans rfl
  clear h1
  go_enter Tryz.func209, Tryz.ntmps209
  go_wp2
  go_ret
  exact ⟨rfl, rfl⟩

set_option maxHeartbeats 3200000 in
theorem mgValid_calls (h : MgPl f V LL L k Ai kc m kb R it w t) :
    Calls Tryz.prog 218 #[.pointer (some ⟨m, 0, none⟩)] w fun e w' => e = .returned (.bool (onL L t)) ∧ w = w' := by
  obtain ⟨pf, ka, i, d, h1, h2⟩ := h
  have r6 : w.cell? ⟨m, 6, none⟩ = some .nilIface := (blk_cell h1.bm 6).trans rfl
  have r5 : w.cell? ⟨m, 5, none⟩ = some (.int .i64 d) := (blk_cell h1.bm 5).trans rfl
  clear h1
  rcases h2 with ⟨c, hc, rfl, rfl, -⟩ | ⟨c, hc, rfl, rfl, -⟩ | ⟨rfl, rfl⟩ | ⟨rfl, rfl⟩
  · rw [on_at hc]
    go_enter Tryz.func218, Tryz.ntmps218
    go_wp2
    go_ret
    exact ⟨rfl, rfl⟩
  · rw [on_at hc]
    go_enter Tryz.func218, Tryz.ntmps218
    go_wp2
    go_ret
    exact ⟨rfl, rfl⟩
  · rw [on_begin]
    go_enter Tryz.func218, Tryz.ntmps218
    go_wp2
    go_ret
    exact ⟨rfl, rfl⟩
  · rw [on_len]
    go_enter Tryz.func218, Tryz.ntmps218
    go_wp2
    go_ret
    exact ⟨rfl, rfl⟩
end

end Go.Proofs.YtdkkkikcigjlhaaGreatDoor.Md

namespace Go.Proofs.YtdkkkikcigjlhaaGreatDoor.Md
open Go.RowKit Go.Proofs.YtdkkkikcigjlhaaGreatDoor.Con Go.Proofs.YtdkkkikcigjlhaaGreatDoor.Run Go.Proofs.YtdkkkikcigjlhaaGreatDoorW.PrintWords Go.Proofs.YtdkkkikcigjlhaaGreatDoorW.PrintMore Go.Proofs.YtdkkkikcigjlhaaGreatDoor.Cmp Go.Sort Go.RwLone Go.Proofs.YtdkkkikcigjlhaaGreatDoor.PFnMemMap

def MkTold (f : List Int → List Int → Int) (V : Value) (LL : List (List S44)) (L : List KV) (k : Nat) (Ai : Option Addr) (kc m kb : Nat) (R : Nat → Prop) (it : Nat → Nat) (t : Int) (key : List Int) (w : World) (e : Ending) (w' : World) : Prop :=
  ∃ B cc, e = .returned (.slice B key.length cc) ∧ Hid (Kd.C (Kd.int .u8) w' B key.length key) ∧ Hid (MgPl f V LL L k Ai kc m kb R it w' t) ∧ Hid (Fr w w' (MgF k m kb it))

section
variable {V : Value} {f : List Int → List Int → Int} {LL : List (List S44)} {L : List KV} {k : Nat} {Ai : Option Addr} {kc m kb : Nat} {R : Nat → Prop} {it : Nat → Nat} {w w1 : World} {pf : Nat → Int} {ka : Array Value} {i d t : Int} {c : Nat}

set_option maxHeartbeats 3200000 in
theorem mgKey_on (h : MgPl f V LL L k Ai kc m kb R it w t) (hS : MgS V LL k Ai kc m kb R it w pf ka i d) (hd : 1 < d) {x : Nat} (hi : i = (x : Int)) (hx : x < k) {key : List Int} {v : Value} (h1 : ka[x]? = some v) (h2 : KyV w R (some key) v) (hke : keyL L t = key) :
    Calls Tryz.prog 211 #[.pointer (some ⟨m, 0, none⟩)] w fun e w' => MkTold f V LL L k Ai kc m kb R it t (keyL L t) w e w' := by
  subst hi
  obtain ⟨a, cc, rfl, h3, -⟩ := h2
  have r6 : w.cell? ⟨m, 6, none⟩ = some .nilIface := (blk_cell hS.bm 6).trans rfl
  have r5 : w.cell? ⟨m, 5, none⟩ = some (.int .i64 d) := (blk_cell hS.bm 5).trans rfl
  have r3 : w.drew.cell? ⟨m, 3, none⟩ = some (.slice (some ⟨kb, 0, none⟩) k k) := (blk_cell hS.bm 3).trans rfl
  have r4 : w.drew.cell? ⟨m, 4, none⟩ = some (.int .i64 (x : Int)) := (blk_cell hS.bm 4).trans rfl
  have c0 : w.drew.cell? ⟨kb, x, none⟩ = some (.slice (some a) key.length cc) := (blk_cell hS.bk x).trans h1
  have y0 : decide (d ≤ 1) = false := decide_eq_false (by omega)
  have v1 : (x : Int) < (k : Int) := by omega
  have HPL := Lib.hid (h.keep (w1 := w.drew) (fun _ _ => rfl) (Nat.le_refl _))
  have HK := Lib.hid (And.intro hke (Kd.F_now h3))
  clear h hS hd hx h1 h3 hke
  go_enter Tryz.func211, Tryz.ntmps211
  go_upto_region 3 with (fail)
  go_region
  all_goals (
    go_wp2
    go_ret
    refine ⟨some a, cc, by rw [HK.out.1]; rfl, Lib.hid (by rw [HK.out.1]; exact HK.out.2), HPL, Lib.hid (Fr.of_below (below_drew (Below.refl _ _)) _)⟩)

set_option maxHeartbeats 3200000 in
theorem mgKey_off (h : MgPl f V LL L k Ai kc m kb R it w t) (hS : MgS V LL k Ai kc m kb R it w pf ka i d) (hd : d ≤ 1) (hke : keyL L t = []) :
    Calls Tryz.prog 211 #[.pointer (some ⟨m, 0, none⟩)] w fun e w' => MkTold f V LL L k Ai kc m kb R it t (keyL L t) w e w' := by
  have r6 : w.cell? ⟨m, 6, none⟩ = some .nilIface := (blk_cell hS.bm 6).trans rfl
  have r5 : w.cell? ⟨m, 5, none⟩ = some (.int .i64 d) := (blk_cell hS.bm 5).trans rfl
  have y0 : decide (d ≤ 1) = true := decide_eq_true hd
  have HK := Lib.hid (And.intro hke h)
  clear h hS hd hke
  go_enter Tryz.func211, Tryz.ntmps211
  go_wp2
  go_ret
  exact ⟨none, 0, by rw [HK.out.1]; rfl, Lib.hid (by rw [HK.out.1]; exact Kd.C_nil _ _), Lib.hid HK.out.2, Lib.hid (Fr.refl _ _)⟩

theorem mgKey_calls (h : MgPl f V LL L k Ai kc m kb R it w t) :
    Calls Tryz.prog 211 #[.pointer (some ⟨m, 0, none⟩)] w fun e w' => MkTold f V LL L k Ai kc m kb R it t (keyL L t) w e w' := by
  have h0 := h
  obtain ⟨pf, ka, i, d, h1, h2⟩ := h
  rcases h2 with ⟨c, hc, rfl, rfl, hU, x, hi, hx, hh⟩ | ⟨c, hc, rfl, rfl, hU, x, hi, hx, hh⟩ | ⟨rfl, rfl⟩ | ⟨rfl, rfl⟩
  · obtain ⟨-, v, h3, h4⟩ := hU x hx
    rw [hh] at h4
    exact mgKey_on h0 h1 (by decide) hi hx h3 h4 (keyL_gK hc)
  · obtain ⟨-, v, h3, h4⟩ := hU x hx
    rw [hh] at h4
    exact mgKey_on h0 h1 (by decide) hi hx h3 h4 (keyL_gK hc)
  · exact mgKey_off h0 h1 (by decide) (keyL_off (on_begin L)).1
  · exact mgKey_off h0 h1 (by decide) (keyL_off on_len).1
end

end Go.Proofs.YtdkkkikcigjlhaaGreatDoor.Md

namespace Go.Proofs.YtdkkkikcigjlhaaGreatDoor.Md
open Go.RowKit Go.Proofs.YtdkkkikcigjlhaaGreatDoor.Con Go.Proofs.YtdkkkikcigjlhaaGreatDoor.Run Go.Proofs.YtdkkkikcigjlhaaGreatDoorW.PrintWords Go.Proofs.YtdkkkikcigjlhaaGreatDoorW.PrintMore Go.Proofs.YtdkkkikcigjlhaaGreatDoor.Cmp Go.Sort Go.RwLone Go.Proofs.YtdkkkikcigjlhaaGreatDoor.PFnMemMap

section
variable {V : Value} {f : List Int → List Int → Int} {LL : List (List S44)} {L : List KV} {k : Nat} {Ai : Option Addr} {kc m kb : Nat} {R : Nat → Prop} {it : Nat → Nat} {w w1 : World} {pf : Nat → Int} {ka : Array Value} {i d t : Int} {c : Nat}

def DvTold (V : Value) (LL : List (List S44)) (m kb : Nat) (R : Nat → Prop) (q x : Nat) (p : Int) (w : World) (e : Ending) (w' : World) : Prop :=
  ∃ B cc, e = .returned (.slice B (valL (kvS (LL.getD q [])) p).length cc) ∧ Hid (Kd.C (Kd.int .u8) w' B (valL (kvS (LL.getD q [])) p).length (valL (kvS (LL.getD q [])) p)) ∧ Hid (DtN V LL m kb R w' q x p) ∧ Hid (Fr w w' (fun b => b = x))

set_option maxHeartbeats 1600000 in
theorem dnValue {q x : Nat} {p : Int} (hV : Cmpr V f) (hl : (LL.getD q []).length ≤ 4294967296) (hb : ∀ y ∈ LL.getD q [], Byt y.f0) (hd : DtN V LL m kb R w q x p) :
    Calls Tryz.prog 201 #[.pointer (some ⟨x, 0, none⟩)] w fun e w' => DvTold V LL m kb R q x p w e w' := by
  obtain ⟨h1, h2, h3, A1, c1, pos2, k1, v1, h4, h5, h6⟩ := hd
  have HU := Lib.hid (upd_calls2 hV rfl hl hb h4 (Kd.F_mono h5 (fun b hk => ⟨.inl hk, fun e => h3 (by rw [← e]; exact hk)⟩)) h6)
  have HO := Lib.hid (And.intro h1 (And.intro h2 (And.intro h3 h5)))
  clear hV hl hb h1 h2 h3 h4 h5 h6
  go_enter Tryz.func201, Tryz.ntmps201
  go_wp2_with (go_at_call 202; (with_reducible refine HU.out.mono ?_); rintro e w1 ⟨rfl, k2, v2, hA, hF, hN⟩; obtain ⟨B1, d1, B2, d2, rfl, rfl, g1, g2⟩ := hA.out.kv; have r8 : w1.cell? ⟨x, 8, none⟩ = some (.slice B2 (valL (kvS (LL.getD q [])) p).length d2) := (blk_cell hA.out.blk 8).trans rfl)
  go_ret
  exact ⟨B2, d2, rfl, Lib.hid (Kd.F_now g2), Lib.hid ⟨HO.out.1, HO.out.2.1, HO.out.2.2.1, A1, c1, p, _, _, hA.out, Kd.F_step HO.out.2.2.2 (fun b hk hl => hF.out.block b hl (fun e => HO.out.2.2.1 (by rw [← e]; exact hk))), hN.out⟩, hF⟩

theorem Mg.pair (h : Mg f LL L) {a b : KV} (ha : a ∈ L) (hb : b ∈ L) (e : a.1 = b.1) : a = b := by
  obtain ⟨n, hn, rfl⟩ := gK_of ha
  obtain ⟨q, hq, rfl⟩ := gK_of hb
  have h0 := (h.ord.zero (gK L n).1 (gK L q).1).2 e
  rcases Nat.lt_trichotomy n q with h1 | h1 | h1
  · have := up_at h.up h1 hq; omega
  · rw [h1]
  · have := up_at h.up h1 hn
    have := h.ord.swap (gK L n).1 (gK L q).1
    omega
theorem valL_gK (hc : c < L.length) : valL L (c : Int) = (gK L c).2 := by
  unfold valL
  rw [if_pos (on_at hc), Int.toNat_natCast]
  rfl
theorem val_at (h : Mg f LL L) {x : Nat} (hx : x < LL.length) (hc : c < L.length) {p : Int} (hh : hdP (LL.getD x []) p = some (gK L c).1) : valL (kvS (LL.getD x [])) p = valL L (c : Int) := by
  obtain ⟨n, rfl, hn, hk⟩ := hdP_some hh
  have hl : n < (kvS (LL.getD x [])).length := by rw [kvS_len]; exact hn
  have e := h.pair ((h.mem _).2 ⟨x, hx, gK_mem hl⟩) (gK_mem hc) hk.symm
  rw [valL_gK hc, valL_gK hl, e]

theorem MgS.same (h : MgS V LL k Ai kc m kb R it w pf ka i d) {x : Nat} (hx : x < k) (hd : DtN V LL m kb R w1 x (it x) (pf x)) (hf : Fr w w1 (fun q => q = it x)) : MgS V LL k Ai kc m kb R it w1 pf ka i d := by
  have h1 := h.move hx hd hf
  have e : (fun y => if y = x then pf x else pf y) = pf := by
    funext y
    by_cases q : y = x
    · rw [if_pos q, q]
    · rw [if_neg q]
  rw [e] at h1
  exact h1

set_option maxHeartbeats 3200000 in
theorem mgValue_on (hV : Cmpr V f) (hn : LL.length = k) (hb : ∀ l ∈ LL, l.length ≤ 4294967296 ∧ ∀ x ∈ l, Byt x.f0) (hS : MgS V LL k Ai kc m kb R it w pf ka i d) (hd : 1 < d) {x : Nat} (hi : i = (x : Int)) (hx : x < k) (hve : valL (kvS (LL.getD x [])) (pf x) = valL L t)
    (hre : ∀ w1, MgS V LL k Ai kc m kb R it w1 pf ka i d → (∀ b, R b → w1.heap[b]? = w.heap[b]?) → MgPl f V LL L k Ai kc m kb R it w1 t) :
    Calls Tryz.prog 219 #[.pointer (some ⟨m, 0, none⟩)] w fun e w' => MkTold f V LL L k Ai kc m kb R it t (valL L t) w e w' := by
  subst hi
  have r6 : w.cell? ⟨m, 6, none⟩ = some .nilIface := (blk_cell hS.bm 6).trans rfl
  have r5 : w.cell? ⟨m, 5, none⟩ = some (.int .i64 d) := (blk_cell hS.bm 5).trans rfl
  have r1 : w.drew.cell? ⟨m, 1, none⟩ = some (.slice Ai k kc) := (blk_cell hS.bm 1).trans rfl
  have r4 : w.drew.cell? ⟨m, 4, none⟩ = some (.int .i64 (x : Int)) := (blk_cell hS.bm 4).trans rfl
  obtain ⟨ad, rfl, c0, -⟩ := hS.itr x hx
  have c0' : w.drew.cell? (ad.add x) = some (dtV (it x)) := c0
  have y0 : decide (d ≤ 1) = false := decide_eq_false (by omega)
  have v1 : (x : Int) < (k : Int) := by omega
  have hmem := mem_at2 hn hx
  have hdd : DtN V LL m kb R w.drew x (it x) (pf x) := (hS.dt x hx).keep (fun _ _ => rfl) (Nat.le_refl _)
  have HK1 := Lib.hid (dnValue hV (hb _ hmem).1 (hb _ hmem).2 hdd)
  have HH := Lib.hid (And.intro hS (And.intro hx (And.intro hve hre)))
  have n4 : ∀ w, (nilAhead 418 161 (.pointer (some ⟨it x, 0, none⟩)) "Value").run Tryz.prog w = .ok (some false) w := fun w => by kernel_rfl
  have m4 : ∀ w, (method 418 161 (.pointer (some ⟨it x, 0, none⟩)) "Value").run Tryz.prog w = .ok (201, .pointer (some ⟨it x, 0, none⟩)) w := fun w => by kernel_rfl
  have q4 : ∀ (args : Array Value) (w : World), (callFunc 201 args).run Tryz.prog w = .ok (.enter 201 args) w := fun args w => Go.MuLone.run_callFunc_enter Tryz.func201 (by kernel_rfl) rfl args w
  clear hS hd hx hve hre hdd hmem hV hb hn c0
  go_enter Tryz.func219, Tryz.ntmps219
  go_upto_region 3 with (fail)
  go_region_with ((with_reducible refine HK1.out.mono ?_); rintro e w2 ⟨B, cc, rfl, hC, hd2, hf2⟩)
  all_goals (
    rename_i K' hK'
    simp only [Exit.then]
    refine hK' _ _ ?_
    go_wp2
    go_ret
    have hff : Fr w w2 (fun q => q = it x) := (Fr.of_below (below_drew (Below.refl w.heap.size w)) (fun q => q = it x)).then_ hf2.out (fun q hq => .inl hq)
    have e := HH.out.2.2.1
    refine ⟨B, cc, by rw [← e]; rfl, Lib.hid (by rw [← e]; exact hC.out), Lib.hid (HH.out.2.2.2 w2 (HH.out.1.same HH.out.2.1 hd2.out hff) (fun b hb => hff.block b (HH.out.1.nr b hb).2.2 (fun e => hd2.out.2.2.1 (by rw [← e]; exact hb)))), Lib.hid (hff.mono (fun q hq => .inr (.inr ⟨x, HH.out.2.1, hq⟩)))⟩)
end

end Go.Proofs.YtdkkkikcigjlhaaGreatDoor.Md

namespace Go.Proofs.YtdkkkikcigjlhaaGreatDoor.Md
open Go.RowKit Go.Proofs.YtdkkkikcigjlhaaGreatDoor.Con Go.Proofs.YtdkkkikcigjlhaaGreatDoor.Run Go.Proofs.YtdkkkikcigjlhaaGreatDoorW.PrintWords Go.Proofs.YtdkkkikcigjlhaaGreatDoorW.PrintMore Go.Proofs.YtdkkkikcigjlhaaGreatDoor.Cmp Go.Sort Go.RwLone Go.Proofs.YtdkkkikcigjlhaaGreatDoor.PFnMemMap

section
variable {V : Value} {f : List Int → List Int → Int} {LL : List (List S44)} {L : List KV} {k : Nat} {Ai : Option Addr} {kc m kb : Nat} {R : Nat → Prop} {it : Nat → Nat} {w w1 : World} {pf : Nat → Int} {ka : Array Value} {i d t : Int} {c : Nat}

set_option maxHeartbeats 3200000 in
theorem mgValue_off (h : MgPl f V LL L k Ai kc m kb R it w t) (hS : MgS V LL k Ai kc m kb R it w pf ka i d) (hd : d ≤ 1) (hke : valL L t = []) :
    Calls Tryz.prog 219 #[.pointer (some ⟨m, 0, none⟩)] w fun e w' => MkTold f V LL L k Ai kc m kb R it t (valL L t) w e w' := by
  have r6 : w.cell? ⟨m, 6, none⟩ = some .nilIface := (blk_cell hS.bm 6).trans rfl
  have r5 : w.cell? ⟨m, 5, none⟩ = some (.int .i64 d) := (blk_cell hS.bm 5).trans rfl
  have y0 : decide (d ≤ 1) = true := decide_eq_true hd
  have HK := Lib.hid (And.intro hke h)
  clear h hS hd hke
  go_enter Tryz.func219, Tryz.ntmps219
  go_wp2
  go_ret
  exact ⟨none, 0, by rw [HK.out.1]; rfl, Lib.hid (by rw [HK.out.1]; exact Kd.C_nil _ _), Lib.hid HK.out.2, Lib.hid (Fr.refl _ _)⟩

theorem stands {l : List S44} {p q : Int} {key : List Int} (h : StP l p q) (hh : hdP l q = some key) : p = q := by
  rcases h with h | h
  · obtain ⟨n, -, hn, -⟩ := hdP_some hh
    omega
  · exact h

theorem mgValue_calls (hV : Cmpr V f) (hM : Mg f LL L) (hn : LL.length = k) (hb : ∀ l ∈ LL, l.length ≤ 4294967296 ∧ ∀ x ∈ l, Byt x.f0) (h : MgPl f V LL L k Ai kc m kb R it w t) :
    Calls Tryz.prog 219 #[.pointer (some ⟨m, 0, none⟩)] w fun e w' => MkTold f V LL L k Ai kc m kb R it t (valL L t) w e w' := by
  have h0 := h
  obtain ⟨pf, ka, i, d, h1, h2⟩ := h
  rcases h2 with ⟨c, hc, rfl, rfl, hU, x, hi, hx, hh⟩ | ⟨c, hc, rfl, rfl, hU, x, hi, hx, hh⟩ | ⟨rfl, rfl⟩ | ⟨rfl, rfl⟩
  · have hp := stands (hU x hx).1 hh
    exact mgValue_on hV hn hb h1 (by decide) hi hx (by rw [hp]; exact val_at hM (by omega) hc hh) (fun w1 hS1 hR => ⟨pf, ka, i, 3, hS1, .inl ⟨c, hc, rfl, rfl, hU.keep hR, x, hi, hx, hh⟩⟩)
  · have hp := stands (hU x hx).1 hh
    exact mgValue_on hV hn hb h1 (by decide) hi hx (by rw [hp]; exact val_at hM (by omega) hc hh) (fun w1 hS1 hR => ⟨pf, ka, i, 2, hS1, .inr (.inl ⟨c, hc, rfl, rfl, hU.keep hR, x, hi, hx, hh⟩)⟩)
  · exact mgValue_off h0 h1 (by decide) (keyL_off (on_begin L)).2
  · exact mgValue_off h0 h1 (by decide) (keyL_off on_len).2
end

end Go.Proofs.YtdkkkikcigjlhaaGreatDoor.Md
