/- impl's walk: moves of an iterator, one behind the other. The laws' walked: what moves told is what a cursor does. The laws' walked, walked. -/
import Derived.Test.YtdkkkikcigjlhaaGreatDoorMj24
import Derived.Test.YtdkkkikcigjlhaaGreatDoorMj15
import Derived.Test.YtdkkkikcigjlhaaGreatDoorMj16
import Derived.BigRegion
set_option linter.unusedVariables false
set_option linter.unusedSimpArgs false
namespace Go.Proofs.YtdkkkikcigjlhaaGreatDoor.Md
open Go.RowKit Go.Proofs.YtdkkkikcigjlhaaGreatDoor.Con Go.Proofs.YtdkkkikcigjlhaaGreatDoor.Run Go.Proofs.YtdkkkikcigjlhaaGreatDoorW.PrintWords Go.Proofs.YtdkkkikcigjlhaaGreatDoorW.PrintMore Go.Proofs.YtdkkkikcigjlhaaGreatDoor.Cmp Go.Sort Go.RwLone Go.Proofs.YtdkkkikcigjlhaaGreatDoor.PFnMemMap

def atsL (f : List Int → List Int → Int) (L : List KV) : Int → List S104 → List S121
  | _, [] => []
  | i, m :: r => ⟨onL L (mvL f L i m.f0 m.f1), onL L (mvL f L i m.f0 m.f1), keyL L (mvL f L i m.f0 m.f1), valL L (mvL f L i m.f0 m.f1), 0⟩ :: atsL f L (mvL f L i m.f0 m.f1) r
def endL (f : List Int → List Int → Int) (L : List KV) : Int → List S104 → Int
  | i, [] => i
  | i, m :: r => endL f L (mvL f L i m.f0 m.f1) r

theorem atsL_snoc (f : List Int → List Int → Int) (L : List KV) (m : S104) : ∀ (ms : List S104) (i : Int), atsL f L i (ms ++ [m]) = atsL f L i ms ++ [⟨onL L (mvL f L (endL f L i ms) m.f0 m.f1), onL L (mvL f L (endL f L i ms) m.f0 m.f1), keyL L (mvL f L (endL f L i ms) m.f0 m.f1), valL L (mvL f L (endL f L i ms) m.f0 m.f1), 0⟩] := by
  intro ms
  induction ms with
  | nil => intro i; rfl
  | cons x r ih => intro i; simp only [List.cons_append, atsL, endL, ih]
theorem endL_snoc (f : List Int → List Int → Int) (L : List KV) (m : S104) : ∀ (ms : List S104) (i : Int), endL f L i (ms ++ [m]) = mvL f L (endL f L i ms) m.f0 m.f1 := by
  intro ms
  induction ms with
  | nil => intro i; rfl
  | cons x r ih => intro i; simp only [List.cons_append, endL, ih]
theorem atsL_len (f : List Int → List Int → Int) (L : List KV) : ∀ (ms : List S104) (i : Int), (atsL f L i ms).length = ms.length := by
  intro ms
  induction ms with
  | nil => intro i; rfl
  | cons x r ih => intro i; simp only [atsL, List.length_cons, ih]

theorem take_next {α : Type} {l : List α} {i : Nat} (h : i < l.length) (z : α) : l.take (i + 1) = l.take i ++ [l.getD i z] := by
  rw [List.take_add_one, List.getElem?_eq_getElem h]
  simp [List.getD_eq_getElem?_getD, List.getElem?_eq_getElem h]

theorem own_F {W : World} {base n c : Nat} {A : Option Addr} {l : List Int} {ok : Nat → Prop} (h : W.ownsRow base 5 1 (.slice A n c) n (nums .u8 l)) (hq : ∀ k, (Value.slice A n c).ownBlock = some k → ok k) : Kd.F (Kd.int .u8) W ok A n l := fun W' hW =>
  ints_C (own_reads' (own_move h (fun k hk => hW k (hq k hk) (own_lt h k hk))))

theorem MvS.then_ {St : World → Int → (Nat → Prop) → Prop} {w W W2 : World} {F F' F2 q q2 : Nat → Prop} {i j : Int} (h : MvS St w F W i q F') (g : MvS St W F' W2 j q2 F2) : MvS St w F W2 j (fun k => q k ∨ q2 k) F2 :=
  ⟨g.st, h.fr.then_ g.fr h.own, fun k hk => (g.own k hk).elim (h.own k) (fun q => .inr (Nat.le_trans h.fr.size q)), fun k hk hf => by
    rcases hk with hk | hk
    · rcases g.own k hf with q1 | q1
      · exact h.off k hk q1
      · have := (h.new k hk).2
        omega
    · exact g.off k hk hf, fun k hk => by
    rcases hk with hk | hk
    · exact ⟨(h.new k hk).1, Nat.lt_of_lt_of_le (h.new k hk).2 g.fr.size⟩
    · exact ⟨Nat.le_trans h.fr.size (g.new k hk).1, (g.new k hk).2⟩⟩

theorem at_room {m j n : Nat} (h : m = j) (hj : j < n) (hn : n ≤ 4294967296) : (m + 1) * 64 ≤ 140737488355328 := by omega

theorem walk_round {f : List Int → List Int → Int} {T : Nat} {u : Value} {kF kL kN kP kS kV kE kK kU : Nat} {L : List KV} {St : World → Int → (Nat → Prop) → Prop} (I : Iter f T u kF kL kN kP kS kV kE kK kU L St) {w w1 w2 : World} {F F' F2 q2 : Nat → Prop} {i j : Int} {v : Value} {xs : List S121} {A B : Option Addr} {c d : Nat} {a b : Bool} {l k : List Int} {z : Int}
    (hm : MvS St w F w1 i (fun _ => False) F') (hn : Kd.N k121 121 w1 w.heap.size (fun k => w.heap.size ≤ k ∧ ¬ F' k) v xs)
    (ho1 : w2.ownsRow w1.heap.size 5 1 (.slice A l.length c) l.length (nums .u8 l)) (ho2 : w2.ownsRow w1.heap.size 5 1 (.slice B k.length d) k.length (nums .u8 k)) (hm2 : MvS St w1 F' w2 j q2 F2)
    (hq1 : ∀ g, (Value.slice A l.length c).ownBlock = some g → q2 g) (hq2 : ∀ g, (Value.slice B k.length d).ownBlock = some g → q2 g) :
    Kd.FK k121 w2 q2 ⟨a, b, l, k, z⟩ [.bool a, .bool b, .slice A l.length c, .slice B k.length d, .int .i64 z] ∧ (∀ g, q2 g → (w.heap.size ≤ g ∧ ¬ F2 g) ∧ some g ≠ v.ownBlock) ∧ (∀ g, w2.heap.size ≤ g → w.heap.size ≤ g ∧ ¬ F2 g) ∧
      Kd.N k121 121 w2 w.heap.size (fun k => w.heap.size ≤ k ∧ ¬ F2 k) v xs ∧ w.heap.size ≤ w2.heap.size ∧ MvS St w F w2 j (fun _ => False) F2 := by
  have hs := hm.fr.size
  have hs2 := hm2.fr.size
  have hN := Kd.N_mono (Kd.N_step (Kd.N_bound hn) (fun k hk _ => hm2.fr.block k hk.2 hk.1.2)) (ok' := fun k => w.heap.size ≤ k ∧ ¬ F2 k) (fun k hk => ⟨hk.1.1, fun q => by
    rcases hm2.own k q with q1 | q1
    · exact hk.1.2 q1
    · have := hk.2
      omega⟩)
  refine ⟨k121_mkF w2 q2 ⟨a, b, l, k, z⟩ (own_cap ho1) (own_F ho1 hq1) (own_cap ho2) (own_F ho2 hq2), fun g hg => ⟨⟨Nat.le_trans hs (hm2.new g hg).1, hm2.off g hg⟩, fun e => ?_⟩, fun g hg => ⟨by omega, fun q => by have := I.inside _ _ _ hm2.st _ q; omega⟩, hN, by omega, ?_⟩
  · have h1 := Kd.N_lt hn g e.symm
    have h2 := (hm2.new g hg).1
    omega
  · exact (hm.then_ hm2).more (fun k hk => hk.elim)

theorem info_At : (Tryz.prog.info? 121).map (fun i => (i.zero, i.size, i.bytes)) = some (some (.agg #[.bool false, .bool false, .slice none 0 0, .slice none 0 0, .int .i64 0]), 5, 64) := by kernel_rfl

set_option maxHeartbeats 6400000 in
set_option maxRecDepth 100000 in
theorem walk_calls {f : List Int → List Int → Int} {T : Nat} {u : Value} {kF kL kN kP kS kV kE kK kU : Nat} {L : List KV} {St : World → Int → (Nat → Prop) → Prop} (I : Iter f T u kF kL kN kP kS kV kE kK kU L St) {w : World} {i : Int} {F ok : Nat → Prop} {A : Option Addr} {c : Nat} {ms : List S104}
    (h : St w i F) (hA : Kd.F k104 w ok A ms.length ms) (hb : ∀ m ∈ ms, Byt m.f1) (hne : ∀ k, ok k → k < w.heap.size → ¬ F k) (hold : ∀ k, ok k → ¬ w.heap.size ≤ k) (hL : ∀ x ∈ L, x.1.length ≤ 4294967296 ∧ x.2.length ≤ 4294967296) (hms : ms.length ≤ 4294967296) :
    Calls Tryz.prog 61 #[.iface T u, .slice A ms.length c] w fun e w' => ∃ v F', e = .returned v ∧ Kd.N k121 121 w' w.heap.size (fun k => w.heap.size ≤ k ∧ ¬ F' k) v (atsL f L i ms) ∧ MvS St w F w' (endL f L i ms) (fun _ => False) F' := by
  have HI := Lib.hid I
  have HM := Lib.hid (show MvS St w F w i (fun _ => False) F from ⟨h, Fr.refl _ _, fun k hk => .inl hk, fun k hk => hk.elim, fun k hk => hk.elim⟩)
  have HA := Lib.hid (And.intro hA (And.intro hb hne))
  have HL := Lib.hid (And.intro hL hms)
  have HOK := Lib.hid hold
  clear I h hA hb hne hL hms hold
  generalize hn : ms.length = n at *
  have HN := Lib.hid hn
  clear hn
  go_enter Tryz.func61, Tryz.ntmps61
  go_wp2
  go_loopg [4, 9] n (fun k v4 v9 w' => ∃ (j : Nat) (F' : Nat → Prop), v9 = .int .i64 (j : Int) ∧ Hid (j ≤ n ∧ n ≤ j + k) ∧ Hid (Kd.N k121 121 w' w.heap.size (fun k => w.heap.size ≤ k ∧ ¬ F' k) v4 (atsL f L i (ms.take j))) ∧ Hid (MvS St w F w' (endL f L i (ms.take j)) (fun _ => False) F'))
  case atStart => exact ⟨0, F, rfl, Lib.hid ⟨Nat.zero_le _, by omega⟩, Lib.hid (Kd.N_nil _ _ _ _ _), HM⟩
  case round =>
    obtain ⟨j, F', rfl, HJ, HNN, HMS⟩ := hrel
    by_cases hj : j < n
    · have hFr : Kd.F k104 wr ok A n ms := Kd.F_step HA.out.1 (fun k ho hk => HMS.out.fr.block k hk (HA.out.2.2 k ho hk))
      obtain ⟨ad, cs, rfl, hcl, hK, hcell, hokb⟩ := Kd.F_get hFr (⟨0, []⟩ : S104) (j : Int) (Int.natCast_nonneg _) (by omega)
      obtain ⟨A1, c1, rfl, hl1, hF1⟩ := k104_openF hK
      have r0 := hcell 0 _ rfl
      have r1 := hcell 1 _ rfl
      rw [Int.toNat_natCast] at r0 r1
      have e2 : j * k104.sz + 0 = j * 2 := rfl
      have e3 : j * k104.sz + 1 = j * 2 + 1 := rfl
      rw [e2] at r0
      rw [e3, add_field ad (j * 2) 1 (by omega)] at r1
      have hF1' : Kd.F (Kd.int .u8) wr ok A1 (ms.getD (j : Int).toNat (⟨0, []⟩ : S104)).f1.length (ms.getD (j : Int).toNat (⟨0, []⟩ : S104)).f1 := hF1
      rw [Int.toNat_natCast] at hF1'
      have hmem : ms.getD j (⟨0, []⟩ : S104) ∈ ms := by
        rw [List.getD_eq_getElem?_getD, List.getElem?_eq_getElem (by rw [HN.out]; exact hj)]
        exact List.getElem_mem _
      have HTK := Lib.hid (take_next (l := ms) (i := j) (by rw [HN.out]; exact hj) (⟨0, []⟩ : S104))
      have HBY := Lib.hid (HA.out.2.1 _ hmem)
      generalize ms.getD j (⟨0, []⟩ : S104) = m at *
      have HF1 := Lib.hid hF1'
      have z0 : decide ((j : Int) < (n : Int)) = true := decide_eq_true (by omega)
      clear hF1' hF1 hcell hK hcl e2 e3 hmem hFr hokb hl1
      go_upto_region 4 with (fail)
      have hb1 := below_alloc (Below.refl wr.heap.size wr) (.cells #[.int .i64 m.f0, .slice A1 m.f1.length c1] 104)
      have k0 : (wr.alloc (.cells #[.int .i64 m.f0, .slice A1 m.f1.length c1] 104)).cell? ⟨wr.heap.size, 0, none⟩ = some (.int .i64 m.f0) := (blk_cell (blk_new wr _) 0).trans rfl
      have k1 : (wr.alloc (.cells #[.int .i64 m.f0, .slice A1 m.f1.length c1] 104)).cell? ⟨wr.heap.size, 1, none⟩ = some (.slice A1 m.f1.length c1) := (blk_cell (blk_new wr _) 1).trans rfl
      have HM1 := Lib.hid (HMS.out.below HI.out hb1)
      have HN1 := Lib.hid (Kd.N_below HNN.out hb1)
      have HMV := Lib.hid (move_calls (d := m.f0) (ca := c1) HI.out HM1.out.st (Kd.F_now (Kd.F_below HF1.out hb1)) HBY.out (fun hp a ha hf => by
        have hok := Kd.F_in HF1.out ha hp (by decide)
        have hlt := Kd.C_lt (d := Kd.int .u8) (ad := a) (by have := Kd.F_now HF1.out; rw [ha] at this; exact this) hp (by decide)
        rcases HMS.out.own _ hf with q | q
        · exact HA.out.2.2 _ hok (by have := HI.out.inside _ _ _ HM.out.st _ q; omega) q
        · exact HOK.out _ hok q) HL.out.1)
      clear r0 r1 hb1 HNN HMS HF1
      generalize wr.alloc (.cells #[.int .i64 m.f0, .slice A1 m.f1.length c1] 104) = w1 at *
      have hjl : (atsL f L i (ms.take j)).length = j := by rw [atsL_len, List.length_take, HN.out]; omega
      have HJL := Lib.hid (And.intro hjl (And.intro hj HJ.out.2))
      have w1' : wrap64 ((j : Int) + 1) = (j : Int) + 1 := wz (by omega) (by have := HL.out.2; omega)
      clear hjl
      go_upto_region 5 with (first
        | (go_at_call 84; (with_reducible refine HMV.out.mono ?_); rintro e w2 ⟨A2, c2, B2, d2, F2, q2, rfl, ho1, ho2, hm2, hq1, hq2⟩; have HX := Lib.hid (walk_round (a := onL L (mvL f L (endL f L i (ms.take j)) m.f0 m.f1)) (b := onL L (mvL f L (endL f L i (ms.take j)) m.f0 m.f1)) (z := 0) HI.out HM1.out HN1.out ho1 ho2 hm2 hq1 hq2))
        | (at_builtin; go_loud (refine Kd.N_append k121 w.heap.size rfl (.tmp 13) (.tmp 17) 52 121 (.agg #[.bool false, .bool false, .slice none 0 0, .slice none 0 0, .int .i64 0]) 64 rfl Tryz.underlying52 info_At rfl (by decide) (by decide) _ _ _ _ _ _ rfl rfl HX.out.1 HX.out.2.1 HX.out.2.2.1 HX.out.2.2.2.1 (Below.refl _ _) HX.out.2.2.2.2.1 (at_room HJL.out.1 HJL.out.2.1 HL.out.2) ?_); intro v3 w3 hn3 hb3 hg3 hat3))
      have HMS3 := Lib.hid ((HX.out.2.2.2.2.2.grown HI.out hg3 (fun k hk => ⟨(HX.out.2.2.2.1.1 k hk).2, (HX.out.2.2.2.1.1 k hk).1⟩)).more (q2 := fun _ => False) (fun k hk => hk.elim))
      have HN3 := Lib.hid hn3
      clear hn3 hb3 hg3 hat3 ho1 ho2 hm2 hq1 hq2
      go_wp2
      go_roundg (gk - 1)
      case measure => exact round_less HJL.out.2.1 HJL.out.2.2
      case rel =>
        refine ⟨j + 1, F2, (by first | rfl | exact congrArg _ w1'), Lib.hid (round_next HJL.out.2.1 HJL.out.2.2), ?_, ?_⟩
        · rw [HTK.out, atsL_snoc]
          exact HN3
        · rw [HTK.out, endL_snoc]
          exact HMS3
    · have z0 : decide ((j : Int) < (n : Int)) = false := decide_eq_false (by omega)
      have hjn : j = n := by have := HJ.out.1; omega
      have HJN := Lib.hid hjn
      clear hjn
      go_wp2
      go_ret
      have e : ms.take j = ms := by rw [HJN.out, ← HN.out, List.take_length]
      have h1 := HNN.out
      have h2 := HMS.out
      rw [e] at h1 h2
      exact ⟨_, F', rfl, h1, h2⟩

set_option maxHeartbeats 1600000 in
theorem CursorNew_calls (o : Int) (A : Option Addr) (n c : Nat) (w : World) :
    Calls Tryz.prog 63 #[.int .i64 o, .slice A n c] w fun e w' => e = .returned (curV o A n c (-1)) ∧ Below w.heap.size w w' := by
  have hb := below_alloc (Below.refl w.heap.size w) (.cells #[.int .i64 o, .slice A n c, .int .i64 (-1)] 116)
  have HB := Lib.hid hb
  have hk := blk_new w (.cells #[.int .i64 o, .slice A n c, .int .i64 (-1)] 116)
  have k0 := (blk_cell hk 0).trans rfl
  have k1 := (blk_cell hk 1).trans rfl
  have k2 := (blk_cell hk 2).trans rfl
  clear hb hk
  go_enter Tryz.func63, Tryz.ntmps63
  go_wp2
  simp [bodyPost, results, Tryz.results63, go_sem, k0, k1, k2]
  exact ⟨rfl, HB.out⟩

theorem atsL_at (f : List Int → List Int → Int) (L : List KV) (m : S104) : ∀ (ms : List S104) (i : Int) (j : Nat), j < ms.length → ms.getD j (⟨0, []⟩ : S104) = m → (atsL f L i ms).getD j (⟨false, false, [], [], 0⟩ : S121) = ⟨onL L (mvL f L (endL f L i (ms.take j)) m.f0 m.f1), onL L (mvL f L (endL f L i (ms.take j)) m.f0 m.f1), keyL L (mvL f L (endL f L i (ms.take j)) m.f0 m.f1), valL L (mvL f L (endL f L i (ms.take j)) m.f0 m.f1), 0⟩ := by
  intro ms
  induction ms with
  | nil => intro i j h; simp at h
  | cons x r ih =>
    intro i j h hm
    cases j with
    | zero =>
      simp only [List.getD_cons_zero] at hm
      subst hm
      simp [atsL, endL]
    | succ j =>
      simp only [List.getD_cons_succ] at hm
      simp only [List.length_cons] at h
      simp only [atsL, List.getD_cons_succ, List.take_succ_cons, endL]
      exact ih _ j (by omega) hm

theorem mvL_in (f : List Int → List Int → Int) (L : List KV) (i d : Int) (key : List Int) (hi : -1 ≤ i ∧ i ≤ (L.length : Int)) : -1 ≤ mvL f L i d key ∧ mvL f L i d key ≤ (L.length : Int) := by
  have h := findL_le f key L
  unfold mvL
  split
  · omega
  · split
    · omega
    · split
      · split <;> omega
      · split
        · split <;> omega
        · omega
theorem endL_in (f : List Int → List Int → Int) (L : List KV) : ∀ (ms : List S104) (i : Int), (-1 ≤ i ∧ i ≤ (L.length : Int)) → -1 ≤ endL f L i ms ∧ endL f L i ms ≤ (L.length : Int) := by
  intro ms
  induction ms with
  | nil => intro i h; exact h
  | cons x r ih => intro i h; exact ih _ (mvL_in f L i _ _ h)

theorem at_at {w : World} {ok : Nat → Prop} {A : Option Addr} {n : Nat} {l : List S121} (h : Kd.F k121 w ok A n l) {j : Nat} (hj : j < n) {x : S121} (hx : l.getD j (⟨false, false, [], [], 0⟩ : S121) = x) :
    ∃ ad A1 c1 A2 c2, A = some ad ∧ w.cell? (ad.add (j * 5)) = some (.bool x.f0) ∧ w.cell? ⟨(ad.add (j * 5)).block, (ad.add (j * 5)).off + 1, none⟩ = some (.bool x.f1) ∧ w.cell? ⟨(ad.add (j * 5)).block, (ad.add (j * 5)).off + 2, none⟩ = some (.slice A1 x.f2.length c1) ∧ w.cell? ⟨(ad.add (j * 5)).block, (ad.add (j * 5)).off + 3, none⟩ = some (.slice A2 x.f3.length c2) ∧ w.cell? ⟨(ad.add (j * 5)).block, (ad.add (j * 5)).off + 4, none⟩ = some (.int .i64 x.f4) ∧ Kd.F (Kd.int .u8) w ok A1 x.f2.length x.f2 ∧ Kd.F (Kd.int .u8) w ok A2 x.f3.length x.f3 ∧ x.f2.length ≤ c1 ∧ x.f3.length ≤ c2 := by
  obtain ⟨ad, cs', rfl, hcl, hK, hcell, hokb⟩ := Kd.F_get h (⟨false, false, [], [], 0⟩ : S121) (j : Int) (Int.natCast_nonneg _) (by omega)
  obtain ⟨A1, c1, A2, c2, rfl, hl1, hF1, hl2, hF2⟩ := k121_openF hK
  have r0 := hcell 0 _ rfl
  have r1 := hcell 1 _ rfl
  have r2 := hcell 2 _ rfl
  have r3 := hcell 3 _ rfl
  have r4 := hcell 4 _ rfl
  rw [Int.toNat_natCast, hx] at r0 r1 r2 r3 r4 hF1 hF2 hl1 hl2
  have e1 : j * k121.sz + 1 = j * 5 + 1 := rfl
  have e2 : j * k121.sz + 2 = j * 5 + 2 := rfl
  have e3 : j * k121.sz + 3 = j * 5 + 3 := rfl
  have e4 : j * k121.sz + 4 = j * 5 + 4 := rfl
  rw [e1, add_field ad (j * 5) 1 (by omega)] at r1
  rw [e2, add_field ad (j * 5) 2 (by omega)] at r2
  rw [e3, add_field ad (j * 5) 3 (by omega)] at r3
  rw [e4, add_field ad (j * 5) 4 (by omega)] at r4
  exact ⟨ad, A1, c1, A2, c2, rfl, r0, r1, r2, r3, r4, hF1, hF2, hl1, hl2⟩

theorem sp_fr_set {w w1 : World} {it j : Nat} (h : Fr w w1 (fun k => k = it)) (v : Value) : Fr w (w1.setCell ⟨it, j, none⟩ v) (fun k => k = it) := h.setCell (p := ⟨it, j, none⟩) (.inl rfl) v
theorem sp_fr_below {w w1 w2 : World} {it : Nat} (h : Fr w w1 (fun k => k = it)) (hb : Below w1.heap.size w1 w2) : Fr w w2 (fun k => k = it) := h.then_ (Fr.of_below hb (fun _ => False)) (fun k hk => hk.elim)

theorem keyC_on {l : List S36} {i : Int} (h : onL (kvC l) i = true) : ∃ p : Nat, i = (p : Int) ∧ p < l.length ∧ keyL (kvC l) i = (l.getD p (⟨[], []⟩ : S36)).f0 ∧ valL (kvC l) i = (l.getD p (⟨[], []⟩ : S36)).f1 := by
  have h2 := h
  unfold onL at h2
  rw [kvC_len, Bool.and_eq_true, decide_eq_true_iff, decide_eq_true_iff] at h2
  refine ⟨i.toNat, by omega, by omega, ?_, ?_⟩
  · unfold keyL
    rw [if_pos h, List.getD_eq_getElem?_getD, kvC_get, List.getElem?_eq_getElem (by omega)]
    simp [List.getD_eq_getElem?_getD, List.getElem?_eq_getElem (show i.toNat < l.length by omega)]
  · unfold valL
    rw [if_pos h, List.getD_eq_getElem?_getD, kvC_get, List.getElem?_eq_getElem (by omega)]
    simp [List.getD_eq_getElem?_getD, List.getElem?_eq_getElem (show i.toNat < l.length by omega)]
theorem keyC_off {l : List S36} {i : Int} (h : onL (kvC l) i = false) : keyL (kvC l) i = [] ∧ valL (kvC l) i = [] := by
  unfold keyL valL
  rw [h]
  exact ⟨rfl, rfl⟩

theorem two_new2 (w : World) (x y : Array Value) (t u : TypeId) : ((w.alloc (.cells x t)).alloc (.cells y u)).heap[w.heap.size]? = some (.cells x t (0, 0)) ∧ ((w.alloc (.cells x t)).alloc (.cells y u)).heap[w.heap.size + 1]? = some (.cells y u (0, 0)) ∧ Below w.heap.size w ((w.alloc (.cells x t)).alloc (.cells y u)) := by
  have h1 := below_alloc (Below.refl w.heap.size w) (.cells x t)
  have n1 := blk_new w (.cells x t)
  have n2 := blk_new (w.alloc (.cells x t)) (.cells y u)
  rw [World.size_alloc] at n2
  have h2 := below_alloc (Below.refl (w.alloc (.cells x t)).heap.size (w.alloc (.cells x t))) (.cells y u)
  exact ⟨(h2.block _ (blk_lt n1)).trans n1, n2, h1.trans (h2.mono h1.size)⟩

def CurAt (W : World) (g : Nat) (o : Int) (A : Option Addr) (n c : Nat) (i : Int) : Prop := W.heap[g]? = some (.cells #[.int .i64 o, .slice A n c, .int .i64 i] 116 (0, 0))

set_option maxHeartbeats 6400000 in
set_option maxRecDepth 100000 in
theorem walked_calls {w : World} {okl okm okg : Nat → Prop} {A Am Ag : Option Addr} {n c mn cm cg : Nat} {l : List S36} {ms : List S104} (o : Int)
    (hL : Kd.F k36 w okl A n l) (hn : l.length = n) (hc : n ≤ c) (hx : ∀ x ∈ l, x.f0.length ≤ 4294967296) (hl : n ≤ 4294967296)
    (hM : Kd.F k104 w okm Am mn ms) (hmn : ms.length = mn) (hml : mn ≤ 4294967296) (hmk : ∀ m ∈ ms, m.f1.length ≤ 4294967296)
    (hG : Kd.F k121 w okg Ag mn (atsL (cmpO o) (kvC l) (-1) ms)) :
    Calls Tryz.prog 27 #[.int .i64 o, .slice A n c, .slice Am mn cm, .slice Ag mn cg] w fun e w' => e = .returned (.bool true) ∧ Below w.heap.size w w' := by
  have HL := Lib.hid (And.intro hL (And.intro hn (And.intro hc (And.intro hx hl))))
  have HM := Lib.hid (And.intro hM (And.intro hmn (And.intro hml hmk)))
  have HG := Lib.hid hG
  clear hL hn hc hx hl hM hmn hml hmk hG
  have z0 : ((mn : Int) != (mn : Int)) = false := by simp
  go_enter Tryz.func27, Tryz.ntmps27
  go_wp2_with (go_at_call 63; (with_reducible refine (CursorNew_calls _ _ _ _ _).mono ?_); rintro e w1 ⟨rfl, hb1⟩; unfold curV)
  have hb2 := hb1.trans ((below_alloc (Below.refl w1.heap.size w1) (.cells #[.int .i64 o, .slice A n c, .int .i64 (-1)] 116)).mono hb1.size)
  have HC0 : Hid (CurAt (w1.alloc (.cells #[.int .i64 o, .slice A n c, .int .i64 (-1)] 116)) w1.heap.size o A n c (-1)) := Lib.hid (blk_new w1 _)
  have HGE := Lib.hid hb1.size
  have HB2 := Lib.hid hb2
  clear hb1 hb2
  generalize w1.alloc (.cells #[.int .i64 o, .slice A n c, .int .i64 (-1)] 116) = w2 at *
  generalize w1.heap.size = g at *
  go_loopg [10] mn (fun k v10 w' => ∃ j : Nat, v10 = .int .i64 (j : Int) ∧ Hid (j ≤ mn ∧ mn ≤ j + k) ∧ Hid (CurAt w' g o A n c (endL (cmpO o) (kvC l) (-1) (ms.take j))) ∧ Hid (Below w.heap.size w w'))
  case atStart => exact ⟨0, rfl, Lib.hid ⟨by omega, by omega⟩, HC0, HB2⟩
  case round =>
    obtain ⟨j, rfl, HJ, HC, HB⟩ := hrel
    by_cases hj : j < mn
    · have y0 : decide ((j : Int) < (mn : Int)) = true := decide_eq_true (by omega)
      have y1 : (j : Int) < (mn : Int) := by omega
      have x0 : wrap64 ((j : Int) + 1) = (j : Int) + 1 := by have := HM.out.2.2.1; unfold wrap64; omega
      obtain ⟨m, hm⟩ : ∃ m, ms.getD j (⟨0, []⟩ : S104) = m := ⟨_, rfl⟩
      have hjl : j < ms.length := by rw [HM.out.2.1]; exact hj
      have hmem : m ∈ ms := by
        rw [← hm, List.getD_eq_getElem?_getD, List.getElem?_eq_getElem hjl]
        exact List.getElem_mem _
      have htk := sp_take (l := ms) (i := j) hjl (⟨0, []⟩ : S104)
      rw [hm] at htk
      have hat := atsL_at (cmpO o) (kvC l) m ms (-1) j hjl hm
      have hin := endL_in (cmpO o) (kvC l) (ms.take j) (-1) ⟨by omega, by omega⟩
      have hin2 := mvL_in (cmpO o) (kvC l) (endL (cmpO o) (kvC l) (-1) (ms.take j)) m.f0 m.f1 hin
      rw [kvC_len, HL.out.2.1] at hin hin2
      have hend : endL (cmpO o) (kvC l) (-1) (ms.take (j + 1)) = mvL (cmpO o) (kvC l) (endL (cmpO o) (kvC l) (-1) (ms.take j)) m.f0 m.f1 := by rw [htk, endL_snoc]
      obtain ⟨ad2, B, bc, hA2, s0, s1, hMF, hbc⟩ := mv_at (Kd.F_below HM.out.1 HB.out) hj hm
      subst hA2
      have HMV : ∀ W, Below wr.heap.size wr W → Hid (Calls Tryz.prog 64 #[curV o A n c (endL (cmpO o) (kvC l) (-1) (ms.take j)), .int .i64 m.f0, .slice B m.f1.length bc] W fun e w' => CmTold o A n c (kvC l) W (mvL (cmpO o) (kvC l) (endL (cmpO o) (kvC l) (-1) (ms.take j)) m.f0 m.f1) e w') := fun W hW => Lib.hid (move_c o _ _ (Kd.F_now (Kd.F_below (Kd.F_below HL.out.1 HB.out) hW)) HL.out.2.1 HL.out.2.2.1 (Kd.F_now (Kd.F_below hMF hW)) hbc (HM.out.2.2.2 m hmem) HL.out.2.2.2.1 HL.out.2.2.2.2 hin)
      rw [hend.symm] at hin2 HMV hat
      generalize endL (cmpO o) (kvC l) (-1) (ms.take j) = i0 at *
      generalize hi1 : endL (cmpO o) (kvC l) (-1) (ms.take (j + 1)) = i1 at *
      have HI1 := Lib.hid hi1
      have HJJ := Lib.hid hj
      have HIN := Lib.hid hin2
      have HAT := Lib.hid hat
      clear hi1 hj hin hin2 hm hjl hmem htk hat hend hMF hbc
      go_upto_region 8 with (fail)
      go_cut [11] (fun v11 wc => v11 = .bool (onL (kvC l) i1) ∧ Hid (CurAt wc g o A n c i1) ∧ Hid (Fr wr wc (fun k => k = g)))
      case first =>
        have hcur : wr.drew.heap[g]? = some (.cells #[.int .i64 o, .slice A n c, .int .i64 i0] 116 (0, 0)) := HC.out
        have q0 : wr.drew.cell? ⟨g, 0, none⟩ = some (.int .i64 o) := (blk_cell hcur 0).trans rfl
        have q1 : wr.drew.cell? ⟨g, 1, none⟩ = some (.slice A n c) := (blk_cell hcur 1).trans rfl
        have q2 : wr.drew.cell? ⟨g, 2, none⟩ = some (.int .i64 i0) := (blk_cell hcur 2).trans rfl
        have t0 : wr.drew.cell? (ad2.add (j * 2)) = some (.int .i64 m.f0) := s0
        have t1 : wr.drew.cell? ⟨(ad2.add (j * 2)).block, (ad2.add (j * 2)).off + 1, none⟩ = some (.slice B m.f1.length bc) := s1
        have HMD := HMV wr.drew (below_drew (Below.refl _ _))
        unfold curV at HMD
        have HCU := Lib.hid hcur
        have HFD := Lib.hid (Fr.of_below (below_drew (Below.refl wr.heap.size wr)) (fun k => k = g))
        clear hcur HMV s0 s1
        rename_i J K hJ hK
        go_region_with ((with_reducible refine HMD.out.mono ?_); rintro e w4 ⟨rfl, hb4⟩; unfold curV; have h4 := (hb4.block g (blk_lt HCU.out)).trans HCU.out; have p0 := (blk_cell h4 0).trans rfl; have p1 := (blk_cell h4 1).trans rfl; have p2 := (blk_cell h4 2).trans rfl; have f0 := blk_frozen h4 0; have f1 := blk_frozen h4 1; have f2 := blk_frozen h4 2)
        all_goals (
          simp only [Exit.then]
          refine hK _ _ (Met.intro (hJ _ _ ?_))
          repeat apply Exists.intro
          refine ⟨?_, rfl⟩
          refine ⟨rfl, Lib.hid ((blk_set (blk_set (blk_set h4 0 _) 1 _) 2 _).trans rfl), Lib.hid (sp_fr_set (sp_fr_set (sp_fr_set (sp_fr_below HFD.out hb4) _) _) _)⟩)
      case rest =>
        obtain ⟨rfl, HC2, HF2⟩ := hcut
        have hB2 := sp_below_fr HB.out HB.out.size HF2.out (fun k hk => by rw [hk]; exact HGE.out)
        have HB2 := Lib.hid hB2
        obtain ⟨ad3, B1, d1, B2, d2, hA3, r0, r1, r2, r3, r4, hF1, hF2, hd1, hd2⟩ := at_at (Kd.F_below HG.out hB2) HJJ.out HAT.out
        subst hA3
        dsimp only at r0 r1 r2 r3 r4 hF1 hF2 hd1 hd2
        have q1 : wc.cell? ⟨g, 1, none⟩ = some (.slice A n c) := (blk_cell HC2.out 1).trans rfl
        have q2 : wc.cell? ⟨g, 2, none⟩ = some (.int .i64 i1) := (blk_cell HC2.out 2).trans rfl
        clear hB2 s0 s1 HMV
        cases hon : onL (kvC l) i1 with
        | true =>
          obtain ⟨p, rfl, hp, hkk, hvv⟩ := keyC_on hon
          have hp' : p < n := by rw [← HL.out.2.1]; exact hp
          obtain ⟨ad, K, kc, V, vc, hAA, u0, u1, hKF, hVF, hkc, hvc⟩ := cp_at (Kd.F_below HL.out.1 HB2.out) hp' rfl
          subst hAA
          rw [hkk] at r2 hF1 hd1
          rw [hvv] at r3 hF2 hd2
          rw [hon] at r0 r1
          generalize l.getD p (⟨[], []⟩ : S36) = x at *
          have SK : ∀ W, Below wc.heap.size wc W → Hid (Calls Tryz.prog 20 #[.slice B1 x.f0.length d1, .slice K x.f0.length kc] W fun e w' => e = .returned (.bool true) ∧ Below W.heap.size W w') := fun W hW => Lib.hid (by
            have := same_calls (Kd.F_now (Kd.F_below hF1 hW)) hd1 (Kd.F_now (Kd.F_below hKF hW)) hkc
            rw [decide_eq_true rfl] at this
            exact this)
          have SV : ∀ W, Below wc.heap.size wc W → Hid (Calls Tryz.prog 20 #[.slice B2 x.f1.length d2, .slice V x.f1.length vc] W fun e w' => e = .returned (.bool true) ∧ Below W.heap.size W w') := fun W hW => Lib.hid (by
            have := same_calls (Kd.F_now (Kd.F_below hF2 hW)) hd2 (Kd.F_now (Kd.F_below hVF hW)) hvc
            rw [decide_eq_true rfl] at this
            exact this)
          have v0 : (p : Int) < (n : Int) := by omega
          clear hKF hVF hF1 hF2 hkk hvv hp hp' hkc hvc hd1 hd2 hon
          go_upto_region 14 with (fail)
          have TW := Lib.hid (two_new2 wc #[.bool true, .bool true, .slice B1 x.f0.length d1, .slice B2 x.f1.length d2, .int .i64 0] #[.slice none 0 0, .slice none 0 0] 121 36)
          generalize (wc.alloc (.cells #[.bool true, .bool true, .slice B1 x.f0.length d1, .slice B2 x.f1.length d2, .int .i64 0] 121)).alloc (.cells #[.slice none 0 0, .slice none 0 0] 36) = w5 at *
          have q1' : w5.cell? ⟨g, 1, none⟩ = some (.slice (some ad) n c) := pw_cell_below TW.out.2.2 q1
          have q2' : w5.cell? ⟨g, 2, none⟩ = some (.int .i64 (p : Int)) := pw_cell_below TW.out.2.2 q2
          have u0' : w5.cell? (ad.add (p * 2)) = some (.slice K x.f0.length kc) := pw_cell_below TW.out.2.2 u0
          have u1' : w5.cell? ⟨(ad.add (p * 2)).block, (ad.add (p * 2)).off + 1, none⟩ = some (.slice V x.f1.length vc) := pw_cell_below TW.out.2.2 u1
          have m0 : w5.cell? ⟨wc.heap.size + 1, 0, none⟩ = some (.slice none 0 0) := (blk_cell TW.out.2.1 0).trans rfl
          have m1 : w5.cell? ⟨wc.heap.size + 1, 1, none⟩ = some (.slice none 0 0) := (blk_cell TW.out.2.1 1).trans rfl
          have f0 := blk_frozen TW.out.2.1 0
          have f1 := blk_frozen TW.out.2.1 1
          clear q1 q2 u0 u1 r0 r1 r2 r3 r4
          go_upto_region 15 with (fail)
          have b6 : Hid (Below wc.heap.size wc ((w5.setCell ⟨wc.heap.size + 1, 0, none⟩ (.slice K x.f0.length kc)).setCell ⟨wc.heap.size + 1, 1, none⟩ (.slice V x.f1.length vc))) := Lib.hid (below_set (g := wc.heap.size + 1) (j := 1) (below_set (g := wc.heap.size + 1) (j := 0) TW.out.2.2 (Nat.le_succ _)) (Nat.le_succ _))
          have c13 := Lib.hid (blk_set (blk_set TW.out.2.1 0 (.slice K x.f0.length kc)) 1 (.slice V x.f1.length vc))
          have c12 : Hid (((w5.setCell ⟨wc.heap.size + 1, 0, none⟩ (.slice K x.f0.length kc)).setCell ⟨wc.heap.size + 1, 1, none⟩ (.slice V x.f1.length vc)).heap[wc.heap.size]? = _) := Lib.hid (((Below.heap_setCell _ _ _ _ (by simp)).trans (Below.heap_setCell _ _ _ _ (by simp))).trans TW.out.1)
          generalize (w5.setCell ⟨wc.heap.size + 1, 0, none⟩ (.slice K x.f0.length kc)).setCell ⟨wc.heap.size + 1, 1, none⟩ (.slice V x.f1.length vc) = w6 at *
          have e2 : w6.cell? ⟨wc.heap.size, 2, none⟩ = some (.slice B1 x.f0.length d1) := (blk_cell c12.out 2).trans rfl
          have e3 : w6.cell? ⟨wc.heap.size, 3, none⟩ = some (.slice B2 x.f1.length d2) := (blk_cell c12.out 3).trans rfl
          have g0 : w6.cell? ⟨wc.heap.size + 1, 0, none⟩ = some (.slice K x.f0.length kc) := (blk_cell c13.out 0).trans rfl
          have g1 : w6.cell? ⟨wc.heap.size + 1, 1, none⟩ = some (.slice V x.f1.length vc) := (blk_cell c13.out 1).trans rfl
          clear q1' q2' u0' u1' m0 m1 f0 f1
          go_wp2_with (first
            | (go_at_call 20; (with_reducible refine (SK _ b6.out).out.mono ?_); rintro e w7 ⟨rfl, hb7⟩; have b7 := b6.out.trans (hb7.mono b6.out.size); have e3' := pw_cell_below hb7 e3; have g1' := pw_cell_below hb7 g1)
            | (go_at_call 20; (with_reducible refine (SV _ b7).out.mono ?_); rintro e w8 ⟨rfl, hb8⟩; have b8 := b7.trans (hb8.mono b7.size); have HC8 := Lib.hid ((b8.block g (blk_lt HC2.out)).trans HC2.out)))
          go_roundg (gk - 1)
          case measure => have := HJ.out; have := HJJ.out; omega
          case rel => exact ⟨j + 1, (by first | rfl | exact congrArg _ x0), Lib.hid (by have := HJ.out; have := HJJ.out; omega), Lib.hid (by rw [HI1.out]; exact HC8.out), Lib.hid (HB2.out.trans (b8.mono HB2.out.size))⟩
        | false =>
          obtain ⟨hkk, hvv⟩ := keyC_off hon
          rw [hkk] at r2 hF1 hd1
          rw [hvv] at r3 hF2 hd2
          rw [hon] at r0 r1
          simp only [List.length_nil] at r2 r3
          have SK : ∀ W, Below wc.heap.size wc W → Hid (Calls Tryz.prog 20 #[.slice B1 0 d1, .slice none 0 0] W fun e w' => e = .returned (.bool true) ∧ Below W.heap.size W w') := fun W hW => Lib.hid (by
            have := same_calls (k := []) (B := none) (d := 0) (Kd.F_now (Kd.F_below hF1 hW)) hd1 (Kd.F_now (Kd.F_nil _ _ (fun _ => True))) (Nat.le_refl _)
            rw [decide_eq_true rfl] at this
            exact this)
          have SV : ∀ W, Below wc.heap.size wc W → Hid (Calls Tryz.prog 20 #[.slice B2 0 d2, .slice none 0 0] W fun e w' => e = .returned (.bool true) ∧ Below W.heap.size W w') := fun W hW => Lib.hid (by
            have := same_calls (k := []) (B := none) (d := 0) (Kd.F_now (Kd.F_below hF2 hW)) hd2 (Kd.F_now (Kd.F_nil _ _ (fun _ => True))) (Nat.le_refl _)
            rw [decide_eq_true rfl] at this
            exact this)
          clear hF1 hF2 hkk hvv hd1 hd2 hon q1 q2
          go_upto_region 15 with (fail)
          have TW := Lib.hid (two_new2 wc #[.bool false, .bool false, .slice B1 0 d1, .slice B2 0 d2, .int .i64 0] #[.slice none 0 0, .slice none 0 0] 121 36)
          generalize (wc.alloc (.cells #[.bool false, .bool false, .slice B1 0 d1, .slice B2 0 d2, .int .i64 0] 121)).alloc (.cells #[.slice none 0 0, .slice none 0 0] 36) = w6 at *
          have e2 : w6.cell? ⟨wc.heap.size, 2, none⟩ = some (.slice B1 0 d1) := (blk_cell TW.out.1 2).trans rfl
          have e3 : w6.cell? ⟨wc.heap.size, 3, none⟩ = some (.slice B2 0 d2) := (blk_cell TW.out.1 3).trans rfl
          have g0 : w6.cell? ⟨wc.heap.size + 1, 0, none⟩ = some (.slice none 0 0) := (blk_cell TW.out.2.1 0).trans rfl
          have g1 : w6.cell? ⟨wc.heap.size + 1, 1, none⟩ = some (.slice none 0 0) := (blk_cell TW.out.2.1 1).trans rfl
          have b6 := Lib.hid TW.out.2.2
          clear r0 r1 r2 r3 r4
          go_wp2_with (first
            | (go_at_call 20; (with_reducible refine (SK _ b6.out).out.mono ?_); rintro e w7 ⟨rfl, hb7⟩; have b7 := b6.out.trans (hb7.mono b6.out.size); have e3' := pw_cell_below hb7 e3; have g1' := pw_cell_below hb7 g1)
            | (go_at_call 20; (with_reducible refine (SV _ b7).out.mono ?_); rintro e w8 ⟨rfl, hb8⟩; have b8 := b7.trans (hb8.mono b7.size); have HC8 := Lib.hid ((b8.block g (blk_lt HC2.out)).trans HC2.out)))
          go_roundg (gk - 1)
          case measure => have := HJ.out; have := HJJ.out; omega
          case rel => exact ⟨j + 1, (by first | rfl | exact congrArg _ x0), Lib.hid (by have := HJ.out; have := HJJ.out; omega), Lib.hid (by rw [HI1.out]; exact HC8.out), Lib.hid (HB2.out.trans (b8.mono HB2.out.size))⟩
    · have y0 : decide ((j : Int) < (mn : Int)) = false := decide_eq_false (by omega)
      go_wp2
      go_ret
      exact ⟨rfl, HB.out⟩

end Go.Proofs.YtdkkkikcigjlhaaGreatDoor.Md
