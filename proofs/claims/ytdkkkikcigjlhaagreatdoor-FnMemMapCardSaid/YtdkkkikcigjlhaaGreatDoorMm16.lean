/- impl's MemScript: what operations leave of a sorted list, and tell of it; the table in the midst of a script. Walks of functions of the reference and of the thin package: a cut of what print.sh prints for FnMemMap. Walks of functions of the reference and of the thin package: a cut of what print.sh prints for FnMemMap. -/
import Derived.Test.YtdkkkikcigjlhaaGreatDoorMm15
import Derived.Test.YtdkkkikcigjlhaaGreatDoorMm13
import Derived.Test.YtdkkkikcigjlhaaGreatDoorMm01
import Derived.Test.YtdkkkikcigjlhaaGreatDoorMm02
import Derived.Test.YtdkkkikcigjlhaaGreatDoorMm03
set_option linter.unusedVariables false
set_option linter.unusedSimpArgs false
namespace Go.Proofs.YtdkkkikcigjlhaaGreatDoor.Md
open Go.RowKit Go.Proofs.YtdkkkikcigjlhaaGreatDoor.Con Go.Proofs.YtdkkkikcigjlhaaGreatDoor.Run Go.Proofs.YtdkkkikcigjlhaaGreatDoorW.PrintWords Go.Proofs.YtdkkkikcigjlhaaGreatDoorW.PrintMore Go.Proofs.YtdkkkikcigjlhaaGreatDoor.Cmp Go.Sort Go.RwLone Go.Proofs.YtdkkkikcigjlhaaGreatDoor.PFnMemMap

structure S79 where
  f0 : List Int
  f1 : List Int
  f2 : Int
  f3 : Bool
def k79 : Kd S79 := Kd.iso (Kd.pair (Kd.slice 5 (Kd.int .u8)) (Kd.pair (Kd.slice 5 (Kd.int .u8)) (Kd.pair (Kd.int .i64) Kd.bool))) (fun x : S79 => (x.f0, x.f1, x.f2, x.f3))
theorem k79_open {w : World} {x : S79} {cs : List Value} (h : k79.K w x cs) : ∃ A0 c0 A1 c1, cs = [.slice A0 x.f0.length c0, .slice A1 x.f1.length c1, .int .i64 x.f2, .bool x.f3] ∧ x.f0.length ≤ c0 ∧ (Kd.int .u8).C w A0 x.f0.length x.f0 ∧ x.f1.length ≤ c1 ∧ (Kd.int .u8).C w A1 x.f1.length x.f1 := by
  obtain ⟨_, _, rfl, ⟨A0, c0, rfl, l0, g0⟩, ⟨_, _, rfl, ⟨A1, c1, rfl, l1, g1⟩, ⟨_, _, rfl, rfl, rfl⟩⟩⟩ := h
  exact ⟨A0, c0, A1, c1, rfl, l0, g0, l1, g1⟩
theorem k79_mk (w : World) (x : S79) {A0 : Option Addr} {c0 : Nat} (l0 : x.f0.length ≤ c0) (g0 : (Kd.int .u8).C w A0 x.f0.length x.f0) {A1 : Option Addr} {c1 : Nat} (l1 : x.f1.length ≤ c1) (g1 : (Kd.int .u8).C w A1 x.f1.length x.f1) : k79.K w x [.slice A0 x.f0.length c0, .slice A1 x.f1.length c1, .int .i64 x.f2, .bool x.f3] :=
  ⟨[.slice A0 x.f0.length c0], [.slice A1 x.f1.length c1, .int .i64 x.f2, .bool x.f3], rfl, ⟨A0, c0, rfl, l0, g0⟩, ⟨[.slice A1 x.f1.length c1], [.int .i64 x.f2, .bool x.f3], rfl, ⟨A1, c1, rfl, l1, g1⟩, ⟨[.int .i64 x.f2], [.bool x.f3], rfl, rfl, rfl⟩⟩⟩
theorem k79_openF {W : World} {ok : Nat → Prop} {x : S79} {cs : List Value} (h : Kd.FK k79 W ok x cs) : ∃ A0 c0 A1 c1, cs = [.slice A0 x.f0.length c0, .slice A1 x.f1.length c1, .int .i64 x.f2, .bool x.f3] ∧ x.f0.length ≤ c0 ∧ Kd.F (Kd.int .u8) W ok A0 x.f0.length x.f0 ∧ x.f1.length ≤ c1 ∧ Kd.F (Kd.int .u8) W ok A1 x.f1.length x.f1 := by
  obtain ⟨A0, c0, A1, c1, rfl, l0, _, l1, _⟩ := k79_open (Kd.FK_now h)
  refine ⟨A0, c0, A1, c1, rfl, l0, fun W' hW => ?_, l1, fun W' hW => ?_⟩
  · obtain ⟨A0', c0', A1', c1', he, l0', g0', l1', g1'⟩ := k79_open (h W' hW)
    simp only [List.cons.injEq, Value.slice.injEq] at he
    rw [he.1.1]
    exact g0'
  · obtain ⟨A0', c0', A1', c1', he, l0', g0', l1', g1'⟩ := k79_open (h W' hW)
    simp only [List.cons.injEq, Value.slice.injEq] at he
    rw [he.2.1.1]
    exact g1'
theorem k79_mkF (W : World) (ok : Nat → Prop) (x : S79) {A0 : Option Addr} {c0 : Nat} (l0 : x.f0.length ≤ c0) (g0 : Kd.F (Kd.int .u8) W ok A0 x.f0.length x.f0) {A1 : Option Addr} {c1 : Nat} (l1 : x.f1.length ≤ c1) (g1 : Kd.F (Kd.int .u8) W ok A1 x.f1.length x.f1) : Kd.FK k79 W ok x [.slice A0 x.f0.length c0, .slice A1 x.f1.length c1, .int .i64 x.f2, .bool x.f3] := fun W2 hW => k79_mk W2 x l0 (g0 W2 hW) l1 (g1 W2 hW)

def stepL (f : List Int → List Int → Int) (L : List KV) (x : S77) : List KV :=
  if x.f0 = 0 then putL f x.f1 x.f2 L else if x.f0 = 1 then dropL f x.f1 L else if x.f0 = 2 then L else if x.f0 = 3 then L else if x.f0 = 4 then L else if x.f0 = 5 then L else if x.f0 = 6 then L else []
def wtL (L : List KV) : Nat := (L.map fun x => x.1.length + x.2.length).sum
def herL (f : List Int → List Int → Int) (key : List Int) (L : List KV) : KV := L.getD (findL f key L) ([], [])
def ansL (f : List Int → List Int → Int) (L : List KV) (x : S77) : S79 :=
  if x.f0 = 0 then ⟨[], [], 0, true⟩ else if x.f0 = 1 then ⟨[], [], 0, hitL f x.f1 L⟩ else if x.f0 = 2 then ⟨[], if hitL f x.f1 L = true then (herL f x.f1 L).2 else [], 0, hitL f x.f1 L⟩ else if x.f0 = 3 then ⟨[], [], 0, hitL f x.f1 L⟩ else
    if x.f0 = 4 then ⟨if findL f x.f1 L < L.length then (herL f x.f1 L).1 else [], if findL f x.f1 L < L.length then (herL f x.f1 L).2 else [], 0, decide (findL f x.f1 L < L.length)⟩ else if x.f0 = 5 then ⟨[], [], (L.length : Int), true⟩ else if x.f0 = 6 then ⟨[], [], (wtL L : Int), true⟩ else ⟨[], [], 0, true⟩
def endM (f : List Int → List Int → Int) (l : List S77) : List KV := l.foldl (stepL f) []
theorem endM_snoc (f : List Int → List Int → Int) (l : List S77) (x : S77) : endM f (l ++ [x]) = stepL f (endM f l) x := by
  unfold endM
  rw [List.foldl_append]
  rfl
def scrL (f : List Int → List Int → Int) : List KV → List S77 → List S79
  | _, [] => []
  | L, x :: r => ansL f L x :: scrL f (stepL f L x) r
theorem scrL_snoc (f : List Int → List Int → Int) (x : S77) : ∀ (l : List S77) (L : List KV), scrL f L (l ++ [x]) = scrL f L l ++ [ansL f (l.foldl (stepL f) L) x] := by
  intro l
  induction l with
  | nil => intro L; rfl
  | cons y r ih => intro L; simp only [List.cons_append, scrL, ih, List.foldl_cons]
theorem scrL_len (f : List Int → List Int → Int) : ∀ (l : List S77) (L : List KV), (scrL f L l).length = l.length := by
  intro l
  induction l with
  | nil => intro L; rfl
  | cons x r ih => intro L; simp only [scrL, List.length_cons, ih]
theorem scrL_get (f : List Int → List Int → Int) (z : S79) (y : S77) : ∀ (l : List S77) (L : List KV) (j : Nat), j < l.length → (scrL f L l).getD j z = ansL f ((l.take j).foldl (stepL f) L) (l.getD j y) := by
  intro l
  induction l with
  | nil => intro L j h; simp at h
  | cons x r ih =>
    intro L j h
    cases j with
    | zero => rfl
    | succ j =>
      simp only [List.length_cons] at h
      simp only [scrL, List.getD_cons_succ, List.take_succ_cons, List.foldl_cons]
      exact ih _ j (by omega)

theorem wtL_weigh (ns : List Node) : wtL (kvsL ns) = weigh ns := by simp [wtL, weigh, kvsL, Function.comp_def]

theorem sumO_take (l : List S77) : ∀ j, sumO (l.take j) ≤ sumO l := by
  induction l with
  | nil => intro j; simp [sumO]
  | cons y r ih =>
    intro j
    cases j with
    | zero => simp [sumO]
    | succ j =>
      have := ih j
      simp only [sumO, List.take_succ_cons, List.map_cons, List.sum_cons] at *
      omega

structure Hold (St : World → Int → (Nat → Prop) → Prop) : Prop where
  inside : ∀ w i F, St w i F → ∀ k, F k → k < w.heap.size
  keep : ∀ w w1 i F, St w i F → (∀ k, F k → w1.heap[k]? = w.heap[k]?) → w.heap.size ≤ w1.heap.size → St w1 i F

section
variable {St : World → Int → (Nat → Prop) → Prop} {w W W1 : World} {F F' q : Nat → Prop} {i j : Int}
theorem Hold.keepF (I : Hold St) (h : MvS St w F W i q F') (hk : ∀ k, F' k → W1.heap[k]? = W.heap[k]?) (hs : W.heap.size ≤ W1.heap.size) (hf : Fr w W1 F) : MvS St w F W1 i q F' :=
  ⟨I.keep _ _ _ _ h.st hk hs, hf, h.own, h.off, fun k hk => ⟨(h.new k hk).1, Nat.lt_of_lt_of_le (h.new k hk).2 hs⟩⟩
theorem Hold.set (I : Hold St) (h : MvS St w F W i q F') {a : Addr} (ha : q a.block) (v : Value) : MvS St w F (W.setCell a v) i q F' :=
  I.keepF h (fun k hk => Below.heap_setCell _ _ _ k (fun e => h.off a.block ha (e ▸ hk))) (by simp) (h.fr.setCell (.inr (h.new _ ha).1) v)
theorem Hold.below (I : Hold St) (h : MvS St w F W i q F') (hb : Below W.heap.size W W1) : MvS St w F W1 i q F' :=
  I.keepF h (fun k hk => hb.block k (I.inside _ _ _ h.st k hk)) hb.size (h.fr.then_ (Fr.of_below hb (fun _ => False)) (fun k hk => hk.elim))
theorem Hold.grown (I : Hold St) (h : MvS St w F W i q F') {row : Option Nat} (hg : W.grownBy W1 row) (hr : ∀ k, row = some k → ¬ F' k ∧ w.heap.size ≤ k) : MvS St w F W1 i q F' :=
  I.keepF h (fun k hk => hg.block k (I.inside _ _ _ h.st k hk) (fun e => (hr k e.symm).1 hk)) hg.size (h.fr.then_ (Fr.of_grown (S := fun k => row = some k) hg (fun k e => e)) (fun k hk => .inr (hr k hk).2))
end

def ScSt (base p : Nat) (V : Value) (f : List Int → List Int → Int) (l : List S77) (W : World) (i : Int) (F : Nat → Prop) : Prop :=
  ∃ D ns, F = D.own p ∧ Mem D W base p V f ns (sumO (l.take i.toNat)) (16 + 16 * i.toNat) ∧ kvsL ns = endM f (l.take i.toNat)

section
variable {base p : Nat} {V : Value} {f : List Int → List Int → Int} {l : List S77}
theorem sc_hold : Hold (ScSt base p V f l) :=
  ⟨fun w i F ⟨D, ns, e, hM, _⟩ k hk => by subst e; exact hM.inside k hk, fun w w1 i F ⟨D, ns, e, hM, hkv⟩ hk _ => ⟨D, ns, e, hM.keep (fun k hq => hk k (by rw [e]; exact hq)), hkv⟩⟩
theorem sc_far {W : World} {i : Int} {F : Nat → Prop} (h : ScSt base p V f l W i F) : ∀ k, F k → base ≤ k := by
  obtain ⟨D, ns, rfl, hM, _⟩ := h
  exact fun k hk => hM.far k hk
theorem sc_p {W : World} {i : Int} {F : Nat → Prop} (h : ScSt base p V f l W i F) : F p := by
  obtain ⟨D, ns, rfl, hM, _⟩ := h
  exact .inr (.inl rfl)

theorem sc_left {W W1 : World} {D D' : MemD} {ns' : List Node} {kb' nb' j : Nat} (hS : MemStep W p D D' W1) (hM : Mem D' W1 base p V f ns' kb' nb') (h1 : kb' ≤ sumO (l.take (j + 1))) (h2 : nb' ≤ 16 + 16 * (j + 1)) (hk : kvsL ns' = endM f (l.take (j + 1))) : Mv (ScSt base p V f l) W (D.own p) ((j + 1 : Nat) : Int) W1 :=
  ⟨D'.own p, ⟨D', ns', rfl, by rw [Int.toNat_natCast]; exact hM.more h1 h2, by rw [Int.toNat_natCast]; exact hk⟩, hS.fr, hS.own⟩

structure ScC (base p : Nat) (V : Value) (f : List Int → List Int → Int) (l : List S77) (W : World) (j : Nat) (F : Nat → Prop) (x : S77) : Prop where
  st : ScSt base p V f l W (j : Int) F
  tk : l.take (j + 1) = l.take j ++ [x]
  b1 : sumO (l.take (j + 1)) ≤ 1099511627776
  b2 : 16 + 16 * (j + 1) ≤ 1099511627776

theorem ScC.sum {W : World} {j : Nat} {F : Nat → Prop} {x : S77} (h : ScC base p V f l W j F x) : sumO (l.take (j + 1)) = sumO (l.take j) + (x.f1.length + x.f2.length) := by rw [h.tk, sumO_snoc]
theorem ScC.end_ {W : World} {j : Nat} {F : Nat → Prop} {x : S77} (h : ScC base p V f l W j F x) : endM f (l.take (j + 1)) = stepL f (endM f (l.take j)) x := by rw [h.tk, endM_snoc]

variable {W : World} {j : Nat} {F : Nat → Prop} {x : S77} {A0 B0 : Option Addr} {ca cb : Nat} {er : Value}

theorem sc_put (h : ScC base p V f l W j F x) (h0 : x.f0 = 0) (hA : Kd.C (Kd.int .u8) W A0 x.f1.length x.f1) (hB : Kd.C (Kd.int .u8) W B0 x.f2.length x.f2) (hneA : 0 < x.f1.length → ∀ a, A0 = some a → ¬ F a.block) (hneB : 0 < x.f2.length → ∀ a, B0 = some a → ¬ F a.block) (hk : Byt x.f1) (hv : Byt x.f2) :
    Calls Tryz.prog 66 #[.pointer (some ⟨p, 0, none⟩), .slice A0 x.f1.length ca, .slice B0 x.f2.length cb] W fun e w' => e = .returned .nilIface ∧ Hid (Mv (ScSt base p V f l) W F ((j + 1 : Nat) : Int) w') := by
  obtain ⟨D, ns, rfl, hM, hkv⟩ := h.st
  rw [Int.toNat_natCast] at hM hkv
  have hs := h.sum
  have hb1 := h.b1
  have hb2 := h.b2
  refine (hM.put (by omega) (by omega) hA hB hneA hneB hk hv).mono ?_
  rintro e w' ⟨rfl, D', ns', P, R, hM', hS, hns, hP, hR, hN⟩
  refine ⟨rfl, Lib.hid (sc_left hS hM' (by omega) (by omega) ?_)⟩
  rw [h.end_, hN.kvs hM.cm.ord hP hR, ← hns, hkv]
  unfold stepL
  rw [if_pos h0]

def MvK (St : World → Int → (Nat → Prop) → Prop) (w : World) (F : Nat → Prop) (i : Int) (w' : World) (F2 : Nat → Prop) : Prop := St w' i F2 ∧ Fr w w' F ∧ ∀ k, F2 k → F k ∨ w.heap.size ≤ k

theorem MvS.callK {St : World → Int → (Nat → Prop) → Prop} {w W W1 : World} {F F' F2 q : Nat → Prop} {i j : Int} (h : MvS St w F W i q F') (m : MvK St W F' j W1 F2) : MvS St w F W1 j q F2 ∧ ∀ k, q k → W1.heap[k]? = W.heap[k]? := by
  obtain ⟨m1, m2, m3⟩ := m
  refine ⟨⟨m1, h.fr.then_ m2 h.own, fun k hk => ?_, fun k hk hf => ?_, fun k hk => ⟨(h.new k hk).1, Nat.lt_of_lt_of_le (h.new k hk).2 m2.size⟩⟩, fun k hk => m2.block k (h.new k hk).2 (h.off k hk)⟩
  · rcases m3 k hk with q1 | q1
    · exact h.own k q1
    · exact .inr (Nat.le_trans h.fr.size q1)
  · rcases m3 k hf with q1 | q1
    · exact h.off k hk q1
    · have := (h.new k hk).2
      omega

theorem sc_sameK (h : ScC base p V f l W j F x) (h0 : stepL f (endM f (l.take j)) x = endM f (l.take j)) {W1 : World} {D D' : MemD} {ns : List Node} (hF : F = D.own p) (hkv : kvsL ns = endM f (l.take j)) (hM : Mem D' W1 base p V f ns (sumO (l.take j)) (16 + 16 * j)) (hS : MemStep W p D D' W1) : MvK (ScSt base p V f l) W F ((j + 1 : Nat) : Int) W1 (D'.own p) := by
  subst hF
  have hs := h.sum
  exact ⟨⟨D', ns, rfl, by rw [Int.toNat_natCast]; exact hM.more (by omega) (by omega), by rw [Int.toNat_natCast, h.end_, h0]; exact hkv⟩, hS.fr, hS.own⟩

theorem sc_same (h : ScC base p V f l W j F x) (h0 : stepL f (endM f (l.take j)) x = endM f (l.take j)) {W1 : World} {D D' : MemD} {ns : List Node} (hF : F = D.own p) (hkv : kvsL ns = endM f (l.take j)) (hM : Mem D' W1 base p V f ns (sumO (l.take j)) (16 + 16 * j)) (hS : MemStep W p D D' W1) : Mv (ScSt base p V f l) W F ((j + 1 : Nat) : Int) W1 := by
  subst hF
  have hs := h.sum
  exact sc_left hS hM (by omega) (by omega) (by rw [h.end_, h0]; exact hkv)

theorem sc_del (h : ScC base p V f l W j F x) (h0 : x.f0 = 1) (hA : Kd.C (Kd.int .u8) W A0 x.f1.length x.f1) (hneA : 0 < x.f1.length → ∀ a, A0 = some a → ¬ F a.block) (hk : Byt x.f1) (hE : W.cell? ⟨0, 0, none⟩ = some er) (hp0 : 0 ≠ p) :
    Calls Tryz.prog 72 #[.pointer (some ⟨p, 0, none⟩), .slice A0 x.f1.length ca] W fun e w' => ∃ er', e = .returned er' ∧ Hid (er' = if hitL f x.f1 (endM f (l.take j)) = true then .nilIface else er) ∧ Hid (Mv (ScSt base p V f l) W F ((j + 1 : Nat) : Int) w') := by
  have hp := sc_p h.st
  obtain ⟨D, ns, rfl, hM, hkv⟩ := h.st
  rw [Int.toNat_natCast] at hM hkv
  have hs := h.sum
  have hb1 := h.b1
  have hb2 := h.b2
  refine (hM.del (by omega) (by omega) hA hk (fun q a ha e => hneA q a ha (e ▸ hp)) hE hp0).mono ?_
  rintro e w' ⟨rfl, D', ns', hM', hS, hN⟩
  rw [hkv] at hN ⊢
  refine ⟨_, rfl, Lib.hid rfl, Lib.hid (sc_left hS hM' (by omega) (by omega) ?_)⟩
  rw [h.end_, hN]
  unfold stepL
  rw [if_neg (by omega), if_pos h0]

def GetS (base p : Nat) (V : Value) (f : List Int → List Int → Int) (l : List S77) (W : World) (j : Nat) (F : Nat → Prop) (x : S77) (er : Value) (e : Ending) (w' : World) : Prop :=
  ∃ A c er' F2 y, e = .returned (.tuple #[.slice A (List.length y) c, er']) ∧ Hid (y = if hitL f x.f1 (endM f (l.take j)) = true then (herL f x.f1 (endM f (l.take j))).2 else []) ∧ Hid (er' = if hitL f x.f1 (endM f (l.take j)) = true then .nilIface else er) ∧ Hid (Kd.F (Kd.int .u8) w' F2 A y.length y) ∧ Hid (MvK (ScSt base p V f l) W F ((j + 1 : Nat) : Int) w' F2)

theorem sc_get (h : ScC base p V f l W j F x) (h0 : x.f0 = 2) (hA : Kd.C (Kd.int .u8) W A0 x.f1.length x.f1) (hneA : 0 < x.f1.length → ∀ a, A0 = some a → ¬ F a.block) (hk : Byt x.f1) (hE : W.cell? ⟨0, 0, none⟩ = some er) (hp0 : 0 ≠ p) :
    Calls Tryz.prog 73 #[.pointer (some ⟨p, 0, none⟩), .slice A0 x.f1.length ca] W fun e w' => GetS base p V f l W j F x er e w' := by
  have hp := sc_p h.st
  obtain ⟨D, ns, hF, hM, hkv⟩ := h.st
  rw [Int.toNat_natCast] at hM hkv
  have hs := h.sum
  have hb1 := h.b1
  have hb2 := h.b2
  refine (hM.get (by omega) (by omega) hA hk (fun q a ha e => hneA q a ha (e ▸ hp)) hE hp0).mono ?_
  rintro e w' ⟨D', hM', hS, hr⟩
  have hmv := sc_sameK h (by unfold stepL; rw [if_neg (by omega), if_neg (by omega), if_pos h0]) hF hkv hM' hS
  rw [hkv] at hr
  unfold GetS herL
  rcases hr with ⟨hh, A, c, rfl, hC⟩ | ⟨hh, rfl⟩
  · exact ⟨A, c, .nilIface, D'.own p, _, rfl, Lib.hid (by rw [if_pos hh]), Lib.hid (by rw [if_pos hh]), Lib.hid hC, Lib.hid hmv⟩
  · exact ⟨none, 0, er, D'.own p, [], rfl, Lib.hid (by rw [if_neg (by rw [hh]; decide)]), Lib.hid (by rw [if_neg (by rw [hh]; decide)]), Lib.hid (fun W' _ => Kd.C_nil _ _), Lib.hid hmv⟩

theorem sc_has (h : ScC base p V f l W j F x) (h0 : x.f0 = 3) (hA : Kd.C (Kd.int .u8) W A0 x.f1.length x.f1) (hneA : 0 < x.f1.length → ∀ a, A0 = some a → ¬ F a.block) (hk : Byt x.f1) :
    Calls Tryz.prog 74 #[.pointer (some ⟨p, 0, none⟩), .slice A0 x.f1.length ca] W fun e w' => e = .returned (.bool (hitL f x.f1 (endM f (l.take j)))) ∧ Hid (Mv (ScSt base p V f l) W F ((j + 1 : Nat) : Int) w') := by
  have hp := sc_p h.st
  obtain ⟨D, ns, hF, hM, hkv⟩ := h.st
  rw [Int.toNat_natCast] at hM hkv
  have hs := h.sum
  have hb1 := h.b1
  have hb2 := h.b2
  refine (hM.has (by omega) (by omega) hA hk (fun q a ha e => hneA q a ha (e ▸ hp))).mono ?_
  rintro e w' ⟨rfl, D', hM', hS⟩
  refine ⟨by rw [hkv], Lib.hid (sc_same h ?_ hF hkv hM' hS)⟩
  unfold stepL; rw [if_neg (by omega), if_neg (by omega), if_neg (by omega), if_pos h0]

def FindS (base p : Nat) (V : Value) (f : List Int → List Int → Int) (l : List S77) (W : World) (j : Nat) (F : Nat → Prop) (x : S77) (er : Value) (e : Ending) (w' : World) : Prop :=
  ∃ A c B d er' F2 y z, e = .returned (.tuple #[.slice A (List.length y) c, .slice B (List.length z) d, er']) ∧ Hid (y = if findL f x.f1 (endM f (l.take j)) < (endM f (l.take j)).length then (herL f x.f1 (endM f (l.take j))).1 else []) ∧ Hid (z = if findL f x.f1 (endM f (l.take j)) < (endM f (l.take j)).length then (herL f x.f1 (endM f (l.take j))).2 else []) ∧ Hid (er' = if findL f x.f1 (endM f (l.take j)) < (endM f (l.take j)).length then .nilIface else er) ∧
    Hid (Kd.F (Kd.int .u8) w' F2 A y.length y) ∧ Hid (Kd.F (Kd.int .u8) w' F2 B z.length z) ∧ Hid (MvK (ScSt base p V f l) W F ((j + 1 : Nat) : Int) w' F2)

theorem sc_find (h : ScC base p V f l W j F x) (h0 : x.f0 = 4) (hA : Kd.C (Kd.int .u8) W A0 x.f1.length x.f1) (hneA : 0 < x.f1.length → ∀ a, A0 = some a → ¬ F a.block) (hk : Byt x.f1) (hE : W.cell? ⟨0, 0, none⟩ = some er) (hp0 : 0 ≠ p) :
    Calls Tryz.prog 75 #[.pointer (some ⟨p, 0, none⟩), .slice A0 x.f1.length ca] W fun e w' => FindS base p V f l W j F x er e w' := by
  have hp := sc_p h.st
  obtain ⟨D, ns, hF, hM, hkv⟩ := h.st
  rw [Int.toNat_natCast] at hM hkv
  have hs := h.sum
  have hb1 := h.b1
  have hb2 := h.b2
  refine (hM.find (by omega) (by omega) hA hk (fun q a ha e => hneA q a ha (e ▸ hp)) hE hp0).mono ?_
  rintro e w' ⟨D', hM', hS, hr⟩
  have hmv := sc_sameK h (by unfold stepL; rw [if_neg (by omega), if_neg (by omega), if_neg (by omega), if_neg (by omega), if_pos h0]) hF hkv hM' hS
  rw [hkv] at hr
  unfold FindS herL
  rcases hr with ⟨hh, A, c, B, d, rfl, hC, hD⟩ | ⟨hh, rfl⟩
  · exact ⟨A, c, B, d, .nilIface, D'.own p, _, _, rfl, Lib.hid (by rw [if_pos hh]), Lib.hid (by rw [if_pos hh]), Lib.hid (by rw [if_pos hh]), Lib.hid hC, Lib.hid hD, Lib.hid hmv⟩
  · exact ⟨none, 0, none, 0, er, D'.own p, [], [], rfl, Lib.hid (by rw [if_neg hh]), Lib.hid (by rw [if_neg hh]), Lib.hid (by rw [if_neg hh]), Lib.hid (fun W' _ => Kd.C_nil _ _), Lib.hid (fun W' _ => Kd.C_nil _ _), Lib.hid hmv⟩

theorem sc_len (h : ScC base p V f l W j F x) (h0 : x.f0 = 5) :
    Calls Tryz.prog 76 #[.pointer (some ⟨p, 0, none⟩)] W fun e w' => e = .returned (.int .i64 ((endM f (l.take j)).length : Int)) ∧ Hid (Mv (ScSt base p V f l) W F ((j + 1 : Nat) : Int) w') := by
  obtain ⟨D, ns, hF, hM, hkv⟩ := h.st
  rw [Int.toNat_natCast] at hM hkv
  refine hM.len.mono ?_
  rintro e w' ⟨rfl, D', hM', hS⟩
  refine ⟨by rw [hkv], Lib.hid (sc_same h ?_ hF hkv hM' hS)⟩
  unfold stepL; rw [if_neg (by omega), if_neg (by omega), if_neg (by omega), if_neg (by omega), if_neg (by omega), if_pos h0]

theorem sc_size (h : ScC base p V f l W j F x) (h0 : x.f0 = 6) :
    Calls Tryz.prog 77 #[.pointer (some ⟨p, 0, none⟩)] W fun e w' => e = .returned (.int .i64 (wtL (endM f (l.take j)) : Int)) ∧ Hid (Mv (ScSt base p V f l) W F ((j + 1 : Nat) : Int) w') := by
  obtain ⟨D, ns, hF, hM, hkv⟩ := h.st
  rw [Int.toNat_natCast] at hM hkv
  refine hM.size.mono ?_
  rintro e w' ⟨rfl, D', hM', hS⟩
  refine ⟨by rw [← hkv, wtL_weigh], Lib.hid (sc_same h ?_ hF hkv hM' hS)⟩
  unfold stepL; rw [if_neg (by omega), if_neg (by omega), if_neg (by omega), if_neg (by omega), if_neg (by omega), if_neg (by omega), if_pos h0]

theorem sc_reset (h : ScC base p V f l W j F x) (h0 : x.f0 ≠ 0) (h1 : x.f0 ≠ 1) (h2 : x.f0 ≠ 2) (h3 : x.f0 ≠ 3) (h4 : x.f0 ≠ 4) (h5 : x.f0 ≠ 5) (h6 : x.f0 ≠ 6) :
    Calls Tryz.prog 78 #[.pointer (some ⟨p, 0, none⟩)] W fun e w' => e = .returned (.tuple #[]) ∧ Hid (Mv (ScSt base p V f l) W F ((j + 1 : Nat) : Int) w') := by
  obtain ⟨D, ns, rfl, hM, hkv⟩ := h.st
  rw [Int.toNat_natCast] at hM hkv
  have hs := h.sum
  refine hM.reset.mono ?_
  rintro e w' ⟨rfl, D', hM', hS⟩
  refine ⟨rfl, Lib.hid (sc_left hS hM' (by omega) (by omega) ?_)⟩
  rw [h.end_]
  unfold stepL
  rw [if_neg h0, if_neg h1, if_neg h2, if_neg h3, if_neg h4, if_neg h5, if_neg h6]
  rfl
end

end Go.Proofs.YtdkkkikcigjlhaaGreatDoor.Md

namespace Go.Proofs.YtdkkkikcigjlhaaGreatDoor.PFnMemMap
open Go.RowKit Go.Proofs.YtdkkkikcigjlhaaGreatDoorW.PrintWords Go.Proofs.YtdkkkikcigjlhaaGreatDoorW.PrintLast Go.Proofs.YtdkkkikcigjlhaaGreatDoorW.PrintMore
attribute [local go_sem] max2_int min2_int max_two min_two max_three min_three max_four min_four   -- for this text's walks alone

-- NOT PRINTED: function 27 (laws_walked)

-- NOT PRINTED: function 53 (memdb_DB_NewIterator)

-- NOT PRINTED: function 85 (v2_New)

def IsS230 (w0 W : World) (g : Nat) (f0 : Int) (f1 : Int) : Prop := W.heap[g]? = some (.cells #[.int .u64 f0, .int .u64 f1] 230 (0, 0)) ∧ w0.heap.size ≤ g
theorem IsS230.grown {w0 W : World} {g : Nat} {f0 : Int} {f1 : Int} {W1 : World} {row : Option Nat} (h : IsS230 w0 W g f0 f1) (hw : W.grownBy W1 row) (hne : some g ≠ row) : IsS230 w0 W1 g f0 f1 := by
  obtain ⟨hb, hg⟩ := h
  exact ⟨blk_grown hb hw hne, hg⟩
theorem IsS230.fresh {w0 W : World} {g : Nat} {f0 : Int} {f1 : Int} (h : IsS230 w0 W g f0 f1) : ∀ k, W.heap.size ≤ k → k ≠ g := by
  obtain ⟨hb, hg⟩ := h
  exact Kd.freshB hb
theorem IsS230.kept {w0 W : World} {g : Nat} {f0 : Int} {f1 : Int} {W1 : World} {S : Nat → Prop} (h : IsS230 w0 W g f0 f1) (hk : Kept W W1 S) (hne : ¬ S g) : IsS230 w0 W1 g f0 f1 := by
  obtain ⟨hb, hg⟩ := h
  exact ⟨blk_kept hb hk hne, hg⟩
theorem IsS230.below {w0 W : World} {g : Nat} {f0 : Int} {f1 : Int} {W1 : World} (h : IsS230 w0 W g f0 f1) (hw : Below W.heap.size W W1) : IsS230 w0 W1 g f0 f1 := h.grown (grown_of_below hw none) (by simp)
theorem IsS230.alloc {w0 W : World} {g : Nat} {f0 : Int} {f1 : Int} (h : IsS230 w0 W g f0 f1) (o : Obj) : IsS230 w0 (W.alloc o) g f0 f1 := h.below (below_alloc (Below.refl _ _) o)
theorem IsS230.drewN {w0 W : World} {g : Nat} {f0 : Int} {f1 : Int} (h : IsS230 w0 W g f0 f1) (m : Nat) : IsS230 w0 (W.drewN m) g f0 f1 := h
theorem IsS230.drew {w0 W : World} {g : Nat} {f0 : Int} {f1 : Int} (h : IsS230 w0 W g f0 f1) : IsS230 w0 W.drew g f0 f1 := h
theorem IsS230.at_ {w0 W : World} {g : Nat} {f0 : Int} {f1 : Int} {w' : World} {m : Nat} (hq : W.drewN m = w') (h : IsS230 w0 W g f0 f1) : IsS230 w0 w' g f0 f1 := by subst hq; exact IsS230.drewN h m
theorem IsS230.apart {w0 W : World} {g : Nat} {f0 : Int} {f1 : Int} {α : Type} {d : Kd α} {e : Nat} {base : Nat} {ok : Nat → Prop} {v : Value} {xs : List α} (h : IsS230 w0 W g f0 f1) (ho : d.R e W base ok v xs) (ht : ∀ q, q ∈ e :: d.E → q ≠ 230) : d.R e W base (fun k => ok k ∧ k ≠ g) v xs := by
  obtain ⟨hb, hg⟩ := h
  exact Kd.R_types ho hb ht
theorem IsS230.own_ne {w0 W : World} {g : Nat} {f0 : Int} {f1 : Int} {α : Type} {d : Kd α} {e : Nat} {base : Nat} {ok : Nat → Prop} {v : Value} {xs : List α} (h : IsS230 w0 W g f0 f1) (ho : d.R e W base ok v xs) (ht : e ≠ 230) : some g ≠ v.ownBlock := by
  obtain ⟨hb, hg⟩ := h
  exact Kd.R_ne ho hb ht
theorem IsS230.lt {w0 W : World} {g : Nat} {f0 : Int} {f1 : Int} (h : IsS230 w0 W g f0 f1) : g < W.heap.size := by
  obtain ⟨hb, hg⟩ := h
  exact blk_lt hb
theorem IsS230.ge {w0 W : World} {g : Nat} {f0 : Int} {f1 : Int} (h : IsS230 w0 W g f0 f1) : w0.heap.size ≤ g := by
  obtain ⟨hb, hg⟩ := h
  exact hg
theorem IsS230.far {w0 W : World} {g : Nat} {f0 : Int} {f1 : Int} {p : Addr} (h : IsS230 w0 W g f0 f1) (hne : g ≠ p.block) (u : Value) : IsS230 w0 (W.setCell p u) g f0 f1 := by
  obtain ⟨hb, hg⟩ := h
  exact ⟨blk_far hb hne u, hg⟩
theorem IsS230.new (w0 W : World) (f0 : Int) (f1 : Int) (hB : Below w0.heap.size w0 W) : IsS230 w0 (W.alloc (.cells #[.int .u64 f0, .int .u64 f1] 230)) W.heap.size f0 f1 := ⟨by simpa using heap_alloc_new W _, hB.size⟩

/-! ### v2_NewPCG: function 86 -/
-- NOT PRINTED: function 65 (memdb_New)

-- NOT PRINTED: function 106 (race_Read)

-- NOT PRINTED: function 107 (race_Disable)

-- NOT PRINTED: function 111 (race_Enable)

-- NOT PRINTED: function 112 (race_Acquire)

-- NOT PRINTED: function 127 (atomic_CompareAndSwapInt32)

-- NOT PRINTED: function 125 (atomic_AddInt32)

-- NOT PRINTED: function 130 (sync_runtime_canSpin)

-- NOT PRINTED: function 131 (sync_runtime_doSpin)

-- NOT PRINTED: function 132 (sync_throw)

-- NOT PRINTED: function 133 (sync_runtime_nanotime)

-- NOT PRINTED: function 134 (sync_runtime_SemacquireMutex)

-- NOT PRINTED: function 128 (sync_Mutex_lockSlow)

-- NOT PRINTED: function 124 (sync_Mutex_Lock_124)

-- NOT PRINTED: function 108 (sync_Mutex_Lock_108)

-- NOT PRINTED: function 109 (atomic_Int32_Add)

-- NOT PRINTED: function 110 (sync_runtime_SemacquireRWMutex)

-- NOT PRINTED: function 87 (sync_RWMutex_Lock)

-- NOT PRINTED: function 113 (race_Release)

-- NOT PRINTED: function 114 (race_ReleaseMerge)

-- NOT PRINTED: function 115 (sync_fatal_115)

-- NOT PRINTED: function 116 (sync_runtime_Semrelease_116)

-- NOT PRINTED: function 135 (sync_fatal_135)

-- NOT PRINTED: function 136 (sync_runtime_Semrelease_136)

-- NOT PRINTED: function 129 (sync_Mutex_unlockSlow)

-- NOT PRINTED: function 126 (sync_Mutex_Unlock_126)

-- NOT PRINTED: function 117 (sync_Mutex_Unlock_117)

-- NOT PRINTED: function 88 (sync_RWMutex_Unlock)

-- NOT PRINTED: function 89 (memdb_DB_findGE)

-- NOT PRINTED: function 118 (v2_Rand_Int)

-- NOT PRINTED: function 90 (memdb_DB_randHeight)

-- NOT PRINTED: function 66 (memdb_DB_Put)

-- NOT PRINTED: function 67 (impl_Span_span)

-- NOT PRINTED: function 33 (impl_MemWalk)

-- NOT PRINTED: function 28 (laws_walkAwake)

/-! ### laws_zzFits26: function 71 -/
def laws_zzFits26.f (a0_0 : Int) (l0_1 : List Int) (l0_2 : List Int) : Option (Bool) := if (l0_1.length : Int) > 2147483647 then (some false) else (if (l0_2.length : Int) > 2147483647 then (some false) else (some true))
set_option maxHeartbeats 8000000 in
set_option maxRecDepth 100000 in
theorem laws_zzFits26.calls (a0_0 : Int) (A0_1 : Option Addr) (c0_1 : Nat) (l0_1 : List Int) (A0_2 : Option Addr) (c0_2 : Nat) (l0_2 : List Int) (r : Bool) (w : World) (hr0_1 : Kd.C (Kd.int .u8) w A0_1 l0_1.length l0_1) (hc0_1 : l0_1.length ≤ c0_1) (hr0_2 : Kd.C (Kd.int .u8) w A0_2 l0_2.length l0_2) (hc0_2 : l0_2.length ≤ c0_2) (h : laws_zzFits26.f a0_0 l0_1 l0_2 = some r) :
    Calls Tryz.prog 71 #[.agg #[.int .i64 a0_0, .slice A0_1 l0_1.length c0_1, .slice A0_2 l0_2.length c0_2]] w fun e w' => e = .returned (.bool r) ∧ Below w.heap.size w w' := by
  have hu77 := Tryz.underlying77
  have HR0_1 := Aside0.mk hr0_1
  have HC0_1 := Aside0.mk hc0_1
  clear hr0_1 hc0_1
  have HR0_2 := Aside0.mk hr0_2
  have HC0_2 := Aside0.mk hc0_2
  clear hr0_2 hc0_2
  have HB := Aside0.mk (Below.refl w.heap.size w)
  have H : (if (l0_1.length : Int) > 2147483647 then (some false) else (if (l0_2.length : Int) > 2147483647 then (some false) else (some true))) = some r := h
  clear h
  by_cases c2 : (l0_1.length : Int) > 2147483647
  · rw [if_pos c2] at H
    have c2b0 : decide (2147483647 < (l0_1.length : Int)) = true := decide_eq_true c2
    have c2b1 : decide (2147483647 < l0_1.length) = true := decide_eq_true (by omega)
    clear c2
    obtain rfl := Option.some.inj H
    go_enter Tryz.func71, Tryz.ntmps71
    go_wp2_with (first | ((with_reducible refine gate_dst (N := 1) rfl ?_); refine box_event ?hg (N := 1) ?hd (cs := #[.int .i64 a0_0, .slice A0_1 l0_1.length c0_1, .slice A0_2 l0_2.length c0_2]) (t := 77) ?hr ?_; (case hd => rfl); (case hg => rfl); (case hr => first | (go_simp; done) | (go_simp; rfl)); intro gb258 hg w3 hbox hb; have n0_ := Aside0.mk (below_step (by repeat (first | (with_reducible first | exact HB.out | apply below_alloc | apply pw_below_drewN | apply below_drew1) | exact HB.out)) hb); have n1_ := Aside0.mk (hbox); have n2_ := Aside0.mk ((by rw [hg]; exact (below_size (by repeat (first | (with_reducible first | exact HB.out | apply below_alloc | apply pw_below_drewN | apply below_drew1) | exact HB.out))) : w.heap.size ≤ gb258)); have n3_ := Aside0.mk ((by rw [hg]; exact (below_size (by repeat (first | (with_reducible first | exact HB.out | apply below_alloc | apply pw_below_drewN | apply below_drew1) | exact HB.out))) : w.heap.size ≤ gb258)); clear HB; have HB := n0_; have BK258 := n1_; have GW258 := n2_; have GE258 := n3_; clear n0_ n1_ n2_ n3_; clear hb hbox hg; have hcz4_0 : w3.cell? ⟨gb258, 0, none⟩ = some (.int .i64 a0_0) := (blk_cell BK258.out 0).trans rfl; have hcz4_1 : w3.cell? ⟨gb258, 1, none⟩ = some (.slice A0_1 l0_1.length c0_1) := (blk_cell BK258.out 1).trans rfl; have hcz4_2 : w3.cell? ⟨gb258, 2, none⟩ = some (.slice A0_2 l0_2.length c0_2) := (blk_cell BK258.out 2).trans rfl; have hfz4_0 := blk_frozen BK258.out 0; have hfz4_1 := blk_frozen BK258.out 1; have hfz4_2 := blk_frozen BK258.out 2))
    go_ret
    exact ⟨by first | rfl | (simp [errW_none, errW_some] <;> rfl) | (simp [*, errW_none, errW_some] <;> rfl), by repeat (first | (with_reducible first | exact HB.out | apply below_alloc | apply pw_below_drewN | apply below_drew1 | refine below_set ?_ GE258.out) | exact HB.out)⟩
  · rw [if_neg c2] at H
    have c2b0 : decide (2147483647 < (l0_1.length : Int)) = false := decide_eq_false c2
    have c2b1 : decide (2147483647 < l0_1.length) = false := decide_eq_false (by omega)
    clear c2
    by_cases c5 : (l0_2.length : Int) > 2147483647
    · rw [if_pos c5] at H
      have c5b0 : decide (2147483647 < (l0_2.length : Int)) = true := decide_eq_true c5
      have c5b1 : decide (2147483647 < l0_2.length) = true := decide_eq_true (by omega)
      clear c5
      obtain rfl := Option.some.inj H
      go_enter Tryz.func71, Tryz.ntmps71
      go_wp2_with (first | ((with_reducible refine gate_dst (N := 1) rfl ?_); refine box_event ?hg (N := 1) ?hd (cs := #[.int .i64 a0_0, .slice A0_1 l0_1.length c0_1, .slice A0_2 l0_2.length c0_2]) (t := 77) ?hr ?_; (case hd => rfl); (case hg => rfl); (case hr => first | (go_simp; done) | (go_simp; rfl)); intro gb258 hg w6 hbox hb; have n0_ := Aside0.mk (below_step (by repeat (first | (with_reducible first | exact HB.out | apply below_alloc | apply pw_below_drewN | apply below_drew1) | exact HB.out)) hb); have n1_ := Aside0.mk (hbox); have n2_ := Aside0.mk ((by rw [hg]; exact (below_size (by repeat (first | (with_reducible first | exact HB.out | apply below_alloc | apply pw_below_drewN | apply below_drew1) | exact HB.out))) : w.heap.size ≤ gb258)); have n3_ := Aside0.mk ((by rw [hg]; exact (below_size (by repeat (first | (with_reducible first | exact HB.out | apply below_alloc | apply pw_below_drewN | apply below_drew1) | exact HB.out))) : w.heap.size ≤ gb258)); clear HB; have HB := n0_; have BK258 := n1_; have GW258 := n2_; have GE258 := n3_; clear n0_ n1_ n2_ n3_; clear hb hbox hg; have hcz7_0 : w6.cell? ⟨gb258, 0, none⟩ = some (.int .i64 a0_0) := (blk_cell BK258.out 0).trans rfl; have hcz7_1 : w6.cell? ⟨gb258, 1, none⟩ = some (.slice A0_1 l0_1.length c0_1) := (blk_cell BK258.out 1).trans rfl; have hcz7_2 : w6.cell? ⟨gb258, 2, none⟩ = some (.slice A0_2 l0_2.length c0_2) := (blk_cell BK258.out 2).trans rfl; have hfz7_0 := blk_frozen BK258.out 0; have hfz7_1 := blk_frozen BK258.out 1; have hfz7_2 := blk_frozen BK258.out 2))
      go_ret
      exact ⟨by first | rfl | (simp [errW_none, errW_some] <;> rfl) | (simp [*, errW_none, errW_some] <;> rfl), by repeat (first | (with_reducible first | exact HB.out | apply below_alloc | apply pw_below_drewN | apply below_drew1 | refine below_set ?_ GE258.out) | exact HB.out)⟩
    · rw [if_neg c5] at H
      have c5b0 : decide (2147483647 < (l0_2.length : Int)) = false := decide_eq_false c5
      have c5b1 : decide (2147483647 < l0_2.length) = false := decide_eq_false (by omega)
      clear c5
      obtain rfl := Option.some.inj H
      go_enter Tryz.func71, Tryz.ntmps71
      go_wp2_with (first | ((with_reducible refine gate_dst (N := 1) rfl ?_); refine box_event ?hg (N := 1) ?hd (cs := #[.int .i64 a0_0, .slice A0_1 l0_1.length c0_1, .slice A0_2 l0_2.length c0_2]) (t := 77) ?hr ?_; (case hd => rfl); (case hg => rfl); (case hr => first | (go_simp; done) | (go_simp; rfl)); intro gb258 hg w8 hbox hb; have n0_ := Aside0.mk (below_step (by repeat (first | (with_reducible first | exact HB.out | apply below_alloc | apply pw_below_drewN | apply below_drew1) | exact HB.out)) hb); have n1_ := Aside0.mk (hbox); have n2_ := Aside0.mk ((by rw [hg]; exact (below_size (by repeat (first | (with_reducible first | exact HB.out | apply below_alloc | apply pw_below_drewN | apply below_drew1) | exact HB.out))) : w.heap.size ≤ gb258)); have n3_ := Aside0.mk ((by rw [hg]; exact (below_size (by repeat (first | (with_reducible first | exact HB.out | apply below_alloc | apply pw_below_drewN | apply below_drew1) | exact HB.out))) : w.heap.size ≤ gb258)); clear HB; have HB := n0_; have BK258 := n1_; have GW258 := n2_; have GE258 := n3_; clear n0_ n1_ n2_ n3_; clear hb hbox hg; have hcz9_0 : w8.cell? ⟨gb258, 0, none⟩ = some (.int .i64 a0_0) := (blk_cell BK258.out 0).trans rfl; have hcz9_1 : w8.cell? ⟨gb258, 1, none⟩ = some (.slice A0_1 l0_1.length c0_1) := (blk_cell BK258.out 1).trans rfl; have hcz9_2 : w8.cell? ⟨gb258, 2, none⟩ = some (.slice A0_2 l0_2.length c0_2) := (blk_cell BK258.out 2).trans rfl; have hfz9_0 := blk_frozen BK258.out 0; have hfz9_1 := blk_frozen BK258.out 1; have hfz9_2 := blk_frozen BK258.out 2))
      go_ret
      exact ⟨by first | rfl | (simp [errW_none, errW_some] <;> rfl) | (simp [*, errW_none, errW_some] <;> rfl), by repeat (first | (with_reducible first | exact HB.out | apply below_alloc | apply pw_below_drewN | apply below_drew1 | refine below_set ?_ GE258.out) | exact HB.out)⟩

/-! ### laws_zzFits25: function 38 -/
def laws_zzFits25.l0 : Nat → List (S77) → Int → Int → Option (Bool)
  | 0, _, _, _ => none
  | k + 1, x8, x9, x10 => if x10 < x9 then (if 0 ≤ x10 then (if x10 < (x8.length : Int) then ((laws_zzFits26.f ((rd_T77 x8 x10).f0) ((rd_T77 x8 x10).f1) ((rd_T77 x8 x10).f2)).bind fun t261 => (if t261 = true then (laws_zzFits25.l0 k x8 x9 (wrap64 (x10 + 1))) else (some false))) else (none)) else (none)) else (some true)
def laws_zzFits25.f (k : Nat) (l0 : List (S77)) : Option (Bool) := if (l0.length : Int) > 2147483647 then (some false) else (laws_zzFits25.l0 k l0 (l0.length : Int) 0)
set_option maxHeartbeats 8000000 in
set_option maxRecDepth 100000 in
theorem laws_zzFits25.calls (k : Nat) (A0 : Option Addr) (c0 : Nat) (l0 : List (S77)) (r : Bool) (w : World) (hr0 : Kd.C k77 w A0 l0.length l0) (hc0 : l0.length ≤ c0) (h : laws_zzFits25.f k l0 = some r) :
    Calls Tryz.prog 38 #[.slice A0 l0.length c0] w fun e w' => e = .returned (.bool r) ∧ Below w.heap.size w w' := by
  have hu77 := Tryz.underlying77
  have HR0 := Aside0.mk hr0
  have HC0 := Aside0.mk hc0
  clear hr0 hc0
  have HB := Aside0.mk (Below.refl w.heap.size w)
  have H : (if (l0.length : Int) > 2147483647 then (some false) else (laws_zzFits25.l0 k l0 (l0.length : Int) 0)) = some r := h
  clear h
  by_cases c2 : (l0.length : Int) > 2147483647
  · rw [if_pos c2] at H
    have c2b0 : decide (2147483647 < (l0.length : Int)) = true := decide_eq_true c2
    have c2b1 : decide (2147483647 < l0.length) = true := decide_eq_true (by omega)
    clear c2
    obtain rfl := Option.some.inj H
    go_enter Tryz.func38, Tryz.ntmps38
    go_wp2
    go_ret
    exact ⟨by first | rfl | (simp [errW_none, errW_some] <;> rfl) | (simp [*, errW_none, errW_some] <;> rfl), by repeat (first | (with_reducible first | exact HB.out | apply below_alloc | apply pw_below_drewN | apply below_drew1) | exact HB.out)⟩
  · rw [if_neg c2] at H
    have c2b0 : decide (2147483647 < (l0.length : Int)) = false := decide_eq_false c2
    have c2b1 : decide (2147483647 < l0.length) = false := decide_eq_false (by omega)
    clear c2
    have H' := Aside0.mk H
    clear H
    go_enter Tryz.func38, Tryz.ntmps38
    go_wp2
    go_loopg [10] k (fun kq v10 w' => ∃ (x10_1 : Int), v10 = .int .i64 x10_1 ∧ Aside0 (laws_zzFits25.l0 kq l0 (l0.length : Int) x10_1 = some r) ∧ Aside0 (kq ≤ k) ∧ Aside0 (Below w.heap.size w w'))
    case atStart => exact ⟨(0), (by first | rfl | (simp; done) | (simp [*]; done)), H', ⟨Nat.le_refl _⟩, ⟨by repeat (first | (with_reducible first | exact HB.out | apply below_alloc | apply pw_below_drewN | apply below_drew1) | exact HB.out)⟩⟩
    case round =>
      clear H'
      try clear c2
      try clear c2b0
      try clear c2b1
      try clear p2
      obtain ⟨x10_1, rfl, HA, HK1, HB⟩ := hrel
      cases gk with
      | zero => exact absurd HA.out (by simp [laws_zzFits25.l0])
      | succ k1 =>
        have H := HA.out
        clear HA
        simp only [laws_zzFits25.l0] at H
        by_cases c3 : x10_1 < (l0.length : Int)
        · rw [if_pos c3] at H
          have c3b0 : decide (x10_1 < (l0.length : Int)) = true := decide_eq_true c3
          clear c3
          by_cases c4 : 0 ≤ x10_1
          · rw [if_pos c4] at H
            have c4b0 : decide (0 ≤ x10_1) = true := decide_eq_true c4
            clear c4
            by_cases c5 : x10_1 < (l0.length : Int)
            · rw [if_pos c5] at H
              have c5b0 : decide (x10_1 < (l0.length : Int)) = true := decide_eq_true c5
              clear c5
              replace H := Option.bind_eq_some_iff.mp H
              obtain ⟨t261, A60, H⟩ := H
              replace H : (if t261 = true then (laws_zzFits25.l0 k1 l0 (l0.length : Int) (wrap64 (x10_1 + 1))) else (some false)) = some r := H
              have A6 := Aside0.mk A60
              clear A60
              by_cases c7 : t261 = true
              · subst c7
                have H1 : (laws_zzFits25.l0 k1 l0 (l0.length : Int) (wrap64 (x10_1 + 1))) = some r := by rw [if_pos rfl] at H; exact H
                clear H
                have H := H1
                clear H1
                have H' := Aside0.mk H
                clear H
                have p259 : 0 ≤ (x10_1 : Int) := of_decide_eq_true (by first | (with_reducible assumption) | assumption)
                have q259 : x10_1 < (l0.length : Int) := of_decide_eq_true (by first | (with_reducible assumption) | assumption)
                obtain ⟨ad259, A259_1, c259_1, A259_2, c259_2, e259, hx259_0, hx259_1, hx259_2, hl259_1, hi259_1, hl259_2, hi259_2⟩ := at_T77 HR0.out x10_1 p259 q259
                cases e259
                replace hx259_0 := (HB.out.cell (World.block_lt_of_cell? w _ hx259_0)).trans hx259_0
                replace hx259_1 := (HB.out.cell (World.block_lt_of_cell? w _ hx259_1)).trans hx259_1
                replace hx259_2 := (HB.out.cell (World.block_lt_of_cell? w _ hx259_2)).trans hx259_2
                have HR259_1 := Aside0.mk hi259_1
                have HC259_1 := Aside0.mk hl259_1
                clear hi259_1 hl259_1
                have HR259_2 := Aside0.mk hi259_2
                have HC259_2 := Aside0.mk hl259_2
                clear hi259_2 hl259_2
                replace p259 := eq_true p259
                replace q259 := eq_true q259
                go_wp2_with (first | ((with_reducible refine gate_dst (N := 4) rfl ?_); refine box_event ?hg (N := 4) ?hd (cs := #[.int .i64 0, .slice none 0 0, .slice none 0 0]) (t := 77) ?hr ?_; (case hd => rfl); (case hg => rfl); (case hr => first | (go_simp; done) | (go_simp; rfl)); intro gb260 hg w8 hbox hb; have n0_ := Aside0.mk (below_step (by repeat (first | (with_reducible first | exact HB.out | apply below_alloc | apply pw_below_drewN | apply below_drew1) | exact HB.out)) hb); have n1_ := Aside0.mk (hbox); have n2_ := Aside0.mk ((by rw [hg]; exact (below_size (by repeat (first | (with_reducible first | exact HB.out | apply below_alloc | apply pw_below_drewN | apply below_drew1) | exact HB.out))) : w.heap.size ≤ gb260)); have n3_ := Aside0.mk ((by rw [hg]; exact (below_size (by repeat (first | (with_reducible first | exact HB.out | apply below_alloc | apply pw_below_drewN | apply below_drew1) | exact HB.out))) : w.heap.size ≤ gb260)); clear HB; have HB := n0_; have BK260 := n1_; have GW260 := n2_; have GE260 := n3_; clear n0_ n1_ n2_ n3_; clear hb hbox hg; have hcz9_0 : w8.cell? ⟨gb260, 0, none⟩ = some (.int .i64 0) := (blk_cell BK260.out 0).trans rfl; have hcz9_1 : w8.cell? ⟨gb260, 1, none⟩ = some (.slice none 0 0) := (blk_cell BK260.out 1).trans rfl; have hcz9_2 : w8.cell? ⟨gb260, 2, none⟩ = some (.slice none 0 0) := (blk_cell BK260.out 2).trans rfl; have hfz9_0 := blk_frozen BK260.out 0; have hfz9_1 := blk_frozen BK260.out 1; have hfz9_2 := blk_frozen BK260.out 2) | ((with_reducible refine gate_callee (f := 71) rfl ?_); refine goesL_ (some 15) rfl rfl Tryz.func71 (by kernel_rfl) rfl #[.agg #[.int .i64 ((rd_T77 l0 x10_1).f0), .slice A259_1 ((rd_T77 l0 x10_1).f1).length c259_1, .slice A259_2 ((rd_T77 l0 x10_1).f2).length c259_2]] rfl (by (try simp only [List.map_toArray, List.map_cons, List.map_nil]); first | done | rfl | (simp only [List.length_drop, List.length_take]; rfl)) ?_; (with_reducible refine (laws_zzFits26.calls ((rd_T77 l0 x10_1).f0) _ _ ((rd_T77 l0 x10_1).f1) _ _ ((rd_T77 l0 x10_1).f2) true _ ?side1 ?side2 ?side3 ?side4 A6.out).mono ?_); (case side1 => exact Kd.C_below HR259_1.out (by repeat (first | (with_reducible first | exact HB.out | apply below_alloc | apply pw_below_drewN | apply below_drew1 | refine below_set ?_ GE260.out) | exact HB.out))); (case side2 => exact HC259_1.out); (case side3 => exact Kd.C_below HR259_2.out (by repeat (first | (with_reducible first | exact HB.out | apply below_alloc | apply pw_below_drewN | apply below_drew1 | refine below_set ?_ GE260.out) | exact HB.out))); (case side4 => exact HC259_2.out); rintro e w10 ⟨rfl, hb⟩; refine ⟨_, rfl, ?_⟩; have n0_ := Aside0.mk (blk_below (g := gb260) (o := .cells #[.int .i64 ((rd_T77 l0 x10_1).f0), .slice A259_1 ((rd_T77 l0 x10_1).f1).length c259_1, .slice A259_2 ((rd_T77 l0 x10_1).f2).length c259_2] 77 (0, 0)) (by (with_reducible repeat (first | refine blk_drewN ?_ _ | refine blk_drew ?_ | refine blk_alloc ?_ _)); refine blk_put (cs := #[.int .i64 ((rd_T77 l0 x10_1).f0), .slice A259_1 ((rd_T77 l0 x10_1).f1).length c259_1, .slice none 0 0]) ?_ 2 _ rfl; (with_reducible repeat (first | refine blk_drewN ?_ _ | refine blk_drew ?_ | refine blk_alloc ?_ _)); refine blk_put (cs := #[.int .i64 ((rd_T77 l0 x10_1).f0), .slice none 0 0, .slice none 0 0]) ?_ 1 _ rfl; (with_reducible repeat (first | refine blk_drewN ?_ _ | refine blk_drew ?_ | refine blk_alloc ?_ _)); refine blk_put (cs := #[.int .i64 0, .slice none 0 0, .slice none 0 0]) ?_ 0 _ rfl; (with_reducible repeat (first | refine blk_drewN ?_ _ | refine blk_drew ?_ | refine blk_alloc ?_ _)); exact BK260.out) hb); have n1_ := Aside0.mk (below_step (by repeat (first | (with_reducible first | exact HB.out | apply below_alloc | apply pw_below_drewN | apply below_drew1 | refine below_set ?_ GE260.out) | exact HB.out)) hb); clear BK260; clear HB; have BK260 := n0_; have HB := n1_; clear n0_ n1_; (try clear hb); (try clear hb2); (try clear hk); (try clear hi)))
                go_roundg k1
                case measure => have := HK1.out; omega
                case rel => exact ⟨(wrap64 (x10_1 + 1)), (by first | rfl | (simp; done) | (simp [*]; done)), H', ⟨by have := HK1.out; omega⟩, ⟨by repeat (first | (with_reducible first | exact HB.out | apply below_alloc | apply pw_below_drewN | apply below_drew1 | refine below_set ?_ GE260.out) | exact HB.out)⟩⟩
              · replace c7 := Bool.eq_false_iff.mpr c7
                subst c7
                have H1 : (some false) = some r := by rw [if_neg (show ¬ (false = true) by decide)] at H; exact H
                clear H
                have H := H1
                clear H1
                obtain rfl := Option.some.inj H
                have p259 : 0 ≤ (x10_1 : Int) := of_decide_eq_true (by first | (with_reducible assumption) | assumption)
                have q259 : x10_1 < (l0.length : Int) := of_decide_eq_true (by first | (with_reducible assumption) | assumption)
                obtain ⟨ad259, A259_1, c259_1, A259_2, c259_2, e259, hx259_0, hx259_1, hx259_2, hl259_1, hi259_1, hl259_2, hi259_2⟩ := at_T77 HR0.out x10_1 p259 q259
                cases e259
                replace hx259_0 := (HB.out.cell (World.block_lt_of_cell? w _ hx259_0)).trans hx259_0
                replace hx259_1 := (HB.out.cell (World.block_lt_of_cell? w _ hx259_1)).trans hx259_1
                replace hx259_2 := (HB.out.cell (World.block_lt_of_cell? w _ hx259_2)).trans hx259_2
                have HR259_1 := Aside0.mk hi259_1
                have HC259_1 := Aside0.mk hl259_1
                clear hi259_1 hl259_1
                have HR259_2 := Aside0.mk hi259_2
                have HC259_2 := Aside0.mk hl259_2
                clear hi259_2 hl259_2
                replace p259 := eq_true p259
                replace q259 := eq_true q259
                go_wp2_with (first | ((with_reducible refine gate_dst (N := 4) rfl ?_); refine box_event ?hg (N := 4) ?hd (cs := #[.int .i64 0, .slice none 0 0, .slice none 0 0]) (t := 77) ?hr ?_; (case hd => rfl); (case hg => rfl); (case hr => first | (go_simp; done) | (go_simp; rfl)); intro gb260 hg w11 hbox hb; have n0_ := Aside0.mk (below_step (by repeat (first | (with_reducible first | exact HB.out | apply below_alloc | apply pw_below_drewN | apply below_drew1) | exact HB.out)) hb); have n1_ := Aside0.mk (hbox); have n2_ := Aside0.mk ((by rw [hg]; exact (below_size (by repeat (first | (with_reducible first | exact HB.out | apply below_alloc | apply pw_below_drewN | apply below_drew1) | exact HB.out))) : w.heap.size ≤ gb260)); have n3_ := Aside0.mk ((by rw [hg]; exact (below_size (by repeat (first | (with_reducible first | exact HB.out | apply below_alloc | apply pw_below_drewN | apply below_drew1) | exact HB.out))) : w.heap.size ≤ gb260)); clear HB; have HB := n0_; have BK260 := n1_; have GW260 := n2_; have GE260 := n3_; clear n0_ n1_ n2_ n3_; clear hb hbox hg; have hcz12_0 : w11.cell? ⟨gb260, 0, none⟩ = some (.int .i64 0) := (blk_cell BK260.out 0).trans rfl; have hcz12_1 : w11.cell? ⟨gb260, 1, none⟩ = some (.slice none 0 0) := (blk_cell BK260.out 1).trans rfl; have hcz12_2 : w11.cell? ⟨gb260, 2, none⟩ = some (.slice none 0 0) := (blk_cell BK260.out 2).trans rfl; have hfz12_0 := blk_frozen BK260.out 0; have hfz12_1 := blk_frozen BK260.out 1; have hfz12_2 := blk_frozen BK260.out 2) | ((with_reducible refine gate_callee (f := 71) rfl ?_); refine goesL_ (some 15) rfl rfl Tryz.func71 (by kernel_rfl) rfl #[.agg #[.int .i64 ((rd_T77 l0 x10_1).f0), .slice A259_1 ((rd_T77 l0 x10_1).f1).length c259_1, .slice A259_2 ((rd_T77 l0 x10_1).f2).length c259_2]] rfl (by (try simp only [List.map_toArray, List.map_cons, List.map_nil]); first | done | rfl | (simp only [List.length_drop, List.length_take]; rfl)) ?_; (with_reducible refine (laws_zzFits26.calls ((rd_T77 l0 x10_1).f0) _ _ ((rd_T77 l0 x10_1).f1) _ _ ((rd_T77 l0 x10_1).f2) false _ ?side1 ?side2 ?side3 ?side4 A6.out).mono ?_); (case side1 => exact Kd.C_below HR259_1.out (by repeat (first | (with_reducible first | exact HB.out | apply below_alloc | apply pw_below_drewN | apply below_drew1 | refine below_set ?_ GE260.out) | exact HB.out))); (case side2 => exact HC259_1.out); (case side3 => exact Kd.C_below HR259_2.out (by repeat (first | (with_reducible first | exact HB.out | apply below_alloc | apply pw_below_drewN | apply below_drew1 | refine below_set ?_ GE260.out) | exact HB.out))); (case side4 => exact HC259_2.out); rintro e w13 ⟨rfl, hb⟩; refine ⟨_, rfl, ?_⟩; have n0_ := Aside0.mk (blk_below (g := gb260) (o := .cells #[.int .i64 ((rd_T77 l0 x10_1).f0), .slice A259_1 ((rd_T77 l0 x10_1).f1).length c259_1, .slice A259_2 ((rd_T77 l0 x10_1).f2).length c259_2] 77 (0, 0)) (by (with_reducible repeat (first | refine blk_drewN ?_ _ | refine blk_drew ?_ | refine blk_alloc ?_ _)); refine blk_put (cs := #[.int .i64 ((rd_T77 l0 x10_1).f0), .slice A259_1 ((rd_T77 l0 x10_1).f1).length c259_1, .slice none 0 0]) ?_ 2 _ rfl; (with_reducible repeat (first | refine blk_drewN ?_ _ | refine blk_drew ?_ | refine blk_alloc ?_ _)); refine blk_put (cs := #[.int .i64 ((rd_T77 l0 x10_1).f0), .slice none 0 0, .slice none 0 0]) ?_ 1 _ rfl; (with_reducible repeat (first | refine blk_drewN ?_ _ | refine blk_drew ?_ | refine blk_alloc ?_ _)); refine blk_put (cs := #[.int .i64 0, .slice none 0 0, .slice none 0 0]) ?_ 0 _ rfl; (with_reducible repeat (first | refine blk_drewN ?_ _ | refine blk_drew ?_ | refine blk_alloc ?_ _)); exact BK260.out) hb); have n1_ := Aside0.mk (below_step (by repeat (first | (with_reducible first | exact HB.out | apply below_alloc | apply pw_below_drewN | apply below_drew1 | refine below_set ?_ GE260.out) | exact HB.out)) hb); clear BK260; clear HB; have BK260 := n0_; have HB := n1_; clear n0_ n1_; (try clear hb); (try clear hb2); (try clear hk); (try clear hi)))
                go_ret
                exact ⟨by first | rfl | (simp [errW_none, errW_some] <;> rfl) | (simp [*, errW_none, errW_some] <;> rfl), by repeat (first | (with_reducible first | exact HB.out | apply below_alloc | apply pw_below_drewN | apply below_drew1 | refine below_set ?_ GE260.out) | exact HB.out)⟩
            · rw [if_neg c5] at H
              exact absurd H (by simp)
          · rw [if_neg c4] at H
            exact absurd H (by simp)
        · rw [if_neg c3] at H
          have c3b0 : decide (x10_1 < (l0.length : Int)) = false := decide_eq_false c3
          clear c3
          obtain rfl := Option.some.inj H
          go_wp2
          go_ret
          exact ⟨by first | rfl | (simp [errW_none, errW_some] <;> rfl) | (simp [*, errW_none, errW_some] <;> rfl), by repeat (first | (with_reducible first | exact HB.out | apply below_alloc | apply pw_below_drewN | apply below_drew1) | exact HB.out)⟩

-- NOT PRINTED: function 44 (laws_bounds_add)

def IsS86 (w0 W : World) (g : Nat) (f0 : Int) (f1 : Int) : Prop := W.heap[g]? = some (.cells #[.int .i64 f0, .int .i64 f1] 86 (0, 0)) ∧ w0.heap.size ≤ g
theorem IsS86.grown {w0 W : World} {g : Nat} {f0 : Int} {f1 : Int} {W1 : World} {row : Option Nat} (h : IsS86 w0 W g f0 f1) (hw : W.grownBy W1 row) (hne : some g ≠ row) : IsS86 w0 W1 g f0 f1 := by
  obtain ⟨hb, hg⟩ := h
  exact ⟨blk_grown hb hw hne, hg⟩
theorem IsS86.fresh {w0 W : World} {g : Nat} {f0 : Int} {f1 : Int} (h : IsS86 w0 W g f0 f1) : ∀ k, W.heap.size ≤ k → k ≠ g := by
  obtain ⟨hb, hg⟩ := h
  exact Kd.freshB hb
theorem IsS86.kept {w0 W : World} {g : Nat} {f0 : Int} {f1 : Int} {W1 : World} {S : Nat → Prop} (h : IsS86 w0 W g f0 f1) (hk : Kept W W1 S) (hne : ¬ S g) : IsS86 w0 W1 g f0 f1 := by
  obtain ⟨hb, hg⟩ := h
  exact ⟨blk_kept hb hk hne, hg⟩
theorem IsS86.below {w0 W : World} {g : Nat} {f0 : Int} {f1 : Int} {W1 : World} (h : IsS86 w0 W g f0 f1) (hw : Below W.heap.size W W1) : IsS86 w0 W1 g f0 f1 := h.grown (grown_of_below hw none) (by simp)
theorem IsS86.alloc {w0 W : World} {g : Nat} {f0 : Int} {f1 : Int} (h : IsS86 w0 W g f0 f1) (o : Obj) : IsS86 w0 (W.alloc o) g f0 f1 := h.below (below_alloc (Below.refl _ _) o)
theorem IsS86.drewN {w0 W : World} {g : Nat} {f0 : Int} {f1 : Int} (h : IsS86 w0 W g f0 f1) (m : Nat) : IsS86 w0 (W.drewN m) g f0 f1 := h
theorem IsS86.drew {w0 W : World} {g : Nat} {f0 : Int} {f1 : Int} (h : IsS86 w0 W g f0 f1) : IsS86 w0 W.drew g f0 f1 := h
theorem IsS86.at_ {w0 W : World} {g : Nat} {f0 : Int} {f1 : Int} {w' : World} {m : Nat} (hq : W.drewN m = w') (h : IsS86 w0 W g f0 f1) : IsS86 w0 w' g f0 f1 := by subst hq; exact IsS86.drewN h m
theorem IsS86.apart {w0 W : World} {g : Nat} {f0 : Int} {f1 : Int} {α : Type} {d : Kd α} {e : Nat} {base : Nat} {ok : Nat → Prop} {v : Value} {xs : List α} (h : IsS86 w0 W g f0 f1) (ho : d.R e W base ok v xs) (ht : ∀ q, q ∈ e :: d.E → q ≠ 86) : d.R e W base (fun k => ok k ∧ k ≠ g) v xs := by
  obtain ⟨hb, hg⟩ := h
  exact Kd.R_types ho hb ht
theorem IsS86.own_ne {w0 W : World} {g : Nat} {f0 : Int} {f1 : Int} {α : Type} {d : Kd α} {e : Nat} {base : Nat} {ok : Nat → Prop} {v : Value} {xs : List α} (h : IsS86 w0 W g f0 f1) (ho : d.R e W base ok v xs) (ht : e ≠ 86) : some g ≠ v.ownBlock := by
  obtain ⟨hb, hg⟩ := h
  exact Kd.R_ne ho hb ht
theorem IsS86.lt {w0 W : World} {g : Nat} {f0 : Int} {f1 : Int} (h : IsS86 w0 W g f0 f1) : g < W.heap.size := by
  obtain ⟨hb, hg⟩ := h
  exact blk_lt hb
theorem IsS86.ge {w0 W : World} {g : Nat} {f0 : Int} {f1 : Int} (h : IsS86 w0 W g f0 f1) : w0.heap.size ≤ g := by
  obtain ⟨hb, hg⟩ := h
  exact hg
theorem IsS86.far {w0 W : World} {g : Nat} {f0 : Int} {f1 : Int} {p : Addr} (h : IsS86 w0 W g f0 f1) (hne : g ≠ p.block) (u : Value) : IsS86 w0 (W.setCell p u) g f0 f1 := by
  obtain ⟨hb, hg⟩ := h
  exact ⟨blk_far hb hne u, hg⟩
theorem IsS86.new (w0 W : World) (f0 : Int) (f1 : Int) (hB : Below w0.heap.size w0 W) : IsS86 w0 (W.alloc (.cells #[.int .i64 f0, .int .i64 f1] 86)) W.heap.size f0 f1 := ⟨by simpa using heap_alloc_new W _, hB.size⟩

/-! ### laws_bounds_within: function 45 -/
-- NOT PRINTED: function 39 (laws_fewOps)

-- NOT PRINTED: function 72 (memdb_DB_Delete)

-- NOT PRINTED: function 119 (sync_runtime_SemacquireRWMutexR)

-- NOT PRINTED: function 91 (sync_RWMutex_RLock)

-- NOT PRINTED: function 120 (sync_RWMutex_rUnlockSlow)

-- NOT PRINTED: function 92 (sync_RWMutex_RUnlock)

-- NOT PRINTED: function 73 (memdb_DB_Get)

-- NOT PRINTED: function 74 (memdb_DB_Contains)

-- NOT PRINTED: function 75 (memdb_DB_Find)

-- NOT PRINTED: function 76 (memdb_DB_Len)

-- NOT PRINTED: function 77 (memdb_DB_Size)

-- NOT PRINTED: function 78 (memdb_DB_Reset)

-- NOT PRINTED: function 40 (impl_MemScript)

end Go.Proofs.YtdkkkikcigjlhaaGreatDoor.PFnMemMap

namespace Go.Proofs.YtdkkkikcigjlhaaGreatDoor.PFnMemMap
open Go.RowKit Go.Proofs.YtdkkkikcigjlhaaGreatDoorW.PrintWords Go.Proofs.YtdkkkikcigjlhaaGreatDoorW.PrintLast Go.Proofs.YtdkkkikcigjlhaaGreatDoorW.PrintMore
attribute [local go_sem] max2_int min2_int max_two min_two max_three min_three max_four min_four   -- for this text's walks alone

/-! ### laws_weight: function 42 -/
def laws_weight.l0 : Nat → List (S36) → Int → Int → Option (Int)
  | 0, _, _, _ => none
  | k + 1, x0, x3, x4 => if x4 < (x0.length : Int) then (if 0 ≤ x4 then (laws_weight.l0 k x0 (wrap64 ((wrap64 (x3 + (((rd_T36 x0 x4).f0).length : Int))) + (((rd_T36 x0 x4).f1).length : Int))) (wrap64 (x4 + 1))) else (none)) else (some x3)
def laws_weight.f (k : Nat) (l0 : List (S36)) : Option (Int) := laws_weight.l0 k l0 0 0
set_option maxHeartbeats 8000000 in
set_option maxRecDepth 100000 in
theorem laws_weight.calls (k : Nat) (A0 : Option Addr) (c0 : Nat) (l0 : List (S36)) (r : Int) (w : World) (hr0 : Kd.C k36 w A0 l0.length l0) (hc0 : l0.length ≤ c0) (h : laws_weight.f k l0 = some r) :
    Calls Tryz.prog 42 #[.slice A0 l0.length c0] w fun e w' => e = .returned (.int .i64 r) ∧ Drawn0 w w' := by
  have HR0 := Aside0.mk hr0
  have HC0 := Aside0.mk hc0
  clear hr0 hc0
  have H : (laws_weight.l0 k l0 0 0) = some r := h
  clear h
  have H' := Aside0.mk H
  clear H
  go_enter Tryz.func42, Tryz.ntmps42
  go_wp2
  repeat (go_quiet (fail); try go_wp2)
  go_loopg [3, 4] k (fun kq v3 v4 w' => ∃ (x3_1 : Int) (x4_1 : Int), v3 = .int .i64 x3_1 ∧ v4 = .int .i64 x4_1 ∧ Aside0 (laws_weight.l0 kq l0 x3_1 x4_1 = some r) ∧ Aside0 (kq ≤ k) ∧ Drawn0 w w')
  case atStart => exact ⟨(0), (0), (by first | rfl | (simp; done) | (simp [*]; done)), (by first | rfl | (simp; done) | (simp [*]; done)), H', ⟨Nat.le_refl _⟩, by repeat (first | exact Drawn0.refl _ | apply Drawn0.step)⟩
  case round =>
    clear H'
    obtain ⟨x3_1, x4_1, rfl, rfl, HA, HK1, ⟨m1, rfl⟩⟩ := hrel
    cases gk with
    | zero => exact absurd HA.out (by simp [laws_weight.l0])
    | succ k1 =>
      have H := HA.out
      clear HA
      simp only [laws_weight.l0] at H
      by_cases c2 : x4_1 < (l0.length : Int)
      · rw [if_pos c2] at H
        have c2b0 : decide (x4_1 < (l0.length : Int)) = true := decide_eq_true c2
        clear c2
        by_cases c3 : 0 ≤ x4_1
        · rw [if_pos c3] at H
          have c3b0 : decide (0 ≤ x4_1) = true := decide_eq_true c3
          clear c3
          have H' := Aside0.mk H
          clear H
          have p291 : 0 ≤ (x4_1 : Int) := of_decide_eq_true (by first | (with_reducible assumption) | assumption)
          have q291 : x4_1 < (l0.length : Int) := of_decide_eq_true (by first | (with_reducible assumption) | assumption)
          obtain ⟨ad291, A291_0, c291_0, A291_1, c291_1, e291, hx291_0, hx291_1, hl291_0, hi291_0, hl291_1, hi291_1⟩ := at_T36 HR0.out x4_1 p291 q291
          cases e291
          have HR291_0 := Aside0.mk hi291_0
          have HC291_0 := Aside0.mk hl291_0
          clear hi291_0 hl291_0
          have HR291_1 := Aside0.mk hi291_1
          have HC291_1 := Aside0.mk hl291_1
          clear hi291_1 hl291_1
          replace p291 := eq_true p291
          replace q291 := eq_true q291
          have p292 : 0 ≤ (x4_1 : Int) := of_decide_eq_true (by first | (with_reducible assumption) | assumption)
          have q292 : x4_1 < (l0.length : Int) := of_decide_eq_true (by first | (with_reducible assumption) | assumption)
          obtain ⟨ad292, A292_0, c292_0, A292_1, c292_1, e292, hx292_0, hx292_1, hl292_0, hi292_0, hl292_1, hi292_1⟩ := at_T36 HR0.out x4_1 p292 q292
          obtain rfl : ad291 = ad292 := (by injection e292)
          have HR292_0 := Aside0.mk hi292_0
          have HC292_0 := Aside0.mk hl292_0
          clear hi292_0 hl292_0
          have HR292_1 := Aside0.mk hi292_1
          have HC292_1 := Aside0.mk hl292_1
          clear hi292_1 hl292_1
          replace p292 := eq_true p292
          replace q292 := eq_true q292
          have ea_ := Option.some.inj (hx291_0.symm.trans hx292_0)
          injection ea_ with ea_ en_ ec_
          subst ea_
          subst ec_
          clear en_
          have ea_ := Option.some.inj (hx291_1.symm.trans hx292_1)
          injection ea_ with ea_ en_ ec_
          subst ea_
          subst ec_
          clear en_
          go_wp2
          repeat (go_quiet (fail); try go_wp2)
          go_roundg k1
          case measure => have := HK1.out; omega
          case rel => exact ⟨(wrap64 ((wrap64 (x3_1 + (((rd_T36 l0 x4_1).f0).length : Int))) + (((rd_T36 l0 x4_1).f1).length : Int))), (wrap64 (x4_1 + 1)), (by first | rfl | (simp; done) | (simp [*]; done)), (by first | rfl | (simp; done) | (simp [*]; done)), H', ⟨by have := HK1.out; omega⟩, by repeat (first | exact Drawn0.refl _ | apply Drawn0.step)⟩
        · rw [if_neg c3] at H
          exact absurd H (by simp)
      · rw [if_neg c2] at H
        have c2b0 : decide (x4_1 < (l0.length : Int)) = false := decide_eq_false c2
        clear c2
        obtain rfl := Option.some.inj H
        go_wp2
        repeat (go_quiet (fail); try go_wp2)
        go_ret
        exact ⟨by first | rfl | (simp; done) | (simp [*]; done), by repeat (first | exact Drawn0.refl _ | apply Drawn0.step)⟩

-- NOT PRINTED: function 8 (laws_FnMemMap)

end Go.Proofs.YtdkkkikcigjlhaaGreatDoor.PFnMemMap
