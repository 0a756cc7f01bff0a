/- impl's walk: moves of an iterator, one behind the other. The laws' walked: what moves told is what a cursor does. The laws' walked, walked. Walks of functions of the laws and of the reference: a cut of what print.sh prints for FnMemWalk. Walks of functions of the laws and of the reference: a cut of what print.sh prints for FnMemWalk. Walks of functions of the laws and of the reference: a cut of what print.sh prints for FnArrayWalk. The laws' small functions, as printed: what they tell. Literals of the laws' fixed call: pairs, moves. A memory table's iterator stands on the sorted list's places: no program in sight. The memory table's iterator is a cursor on the range's pairs. -/
import Derived.Test.YtdkkkikcigjlhaaGreatDoorMm11
import Derived.Test.YtdkkkikcigjlhaaGreatDoorMm07
import Derived.BigRegion
import Derived.Test.YtdkkkikcigjlhaaGreatDoorMm01
import Derived.Test.YtdkkkikcigjlhaaGreatDoorMm02
import Derived.Test.YtdkkkikcigjlhaaGreatDoorMm03
set_option linter.unusedVariables false
set_option linter.unusedSimpArgs false
namespace Go.Proofs.YtdkkkikcigjlhaaGreatDoor.Md
open Go.RowKit Go.Proofs.YtdkkkikcigjlhaaGreatDoor.Con Go.Proofs.YtdkkkikcigjlhaaGreatDoor.Run Go.Proofs.YtdkkkikcigjlhaaGreatDoorW.PrintWords Go.Proofs.YtdkkkikcigjlhaaGreatDoorW.PrintMore Go.Proofs.YtdkkkikcigjlhaaGreatDoor.Cmp Go.Sort Go.RwLone Go.Proofs.YtdkkkikcigjlhaaGreatDoor.PFnMemMap

def atsL (f : List Int → List Int → Int) (L : List KV) : Int → List S104 → List S121
  | _, [] => []
  | i, m :: r => ⟨onL L (mvL f L i m.f0 m.f1), onL L (mvL f L i m.f0 m.f1), keyL L (mvL f L i m.f0 m.f1), valL L (mvL f L i m.f0 m.f1), 0⟩ :: atsL f L (mvL f L i m.f0 m.f1) r
def endL (f : List Int → List Int → Int) (L : List KV) : Int → List S104 → Int
  | i, [] => i
  | i, m :: r => endL f L (mvL f L i m.f0 m.f1) r

theorem atsL_snoc (f : List Int → List Int → Int) (L : List KV) (m : S104) : ∀ (ms : List S104) (i : Int), atsL f L i (ms ++ [m]) = atsL f L i ms ++ [⟨onL L (mvL f L (endL f L i ms) m.f0 m.f1), onL L (mvL f L (endL f L i ms) m.f0 m.f1), keyL L (mvL f L (endL f L i ms) m.f0 m.f1), valL L (mvL f L (endL f L i ms) m.f0 m.f1), 0⟩] := by
  intro ms
  induction ms with
  | nil => intro i; rfl
  | cons x r ih => intro i; simp only [List.cons_append, atsL, endL, ih]
theorem endL_snoc (f : List Int → List Int → Int) (L : List KV) (m : S104) : ∀ (ms : List S104) (i : Int), endL f L i (ms ++ [m]) = mvL f L (endL f L i ms) m.f0 m.f1 := by
  intro ms
  induction ms with
  | nil => intro i; rfl
  | cons x r ih => intro i; simp only [List.cons_append, endL, ih]
theorem atsL_len (f : List Int → List Int → Int) (L : List KV) : ∀ (ms : List S104) (i : Int), (atsL f L i ms).length = ms.length := by
  intro ms
  induction ms with
  | nil => intro i; rfl
  | cons x r ih => intro i; simp only [atsL, List.length_cons, ih]

theorem take_next {α : Type} {l : List α} {i : Nat} (h : i < l.length) (z : α) : l.take (i + 1) = l.take i ++ [l.getD i z] := by
  rw [List.take_add_one, List.getElem?_eq_getElem h]
  simp [List.getD_eq_getElem?_getD, List.getElem?_eq_getElem h]

theorem own_F {W : World} {base n c : Nat} {A : Option Addr} {l : List Int} {ok : Nat → Prop} (h : W.ownsRow base 5 1 (.slice A n c) n (nums .u8 l)) (hq : ∀ k, (Value.slice A n c).ownBlock = some k → ok k) : Kd.F (Kd.int .u8) W ok A n l := fun W' hW =>
  ints_C (own_reads' (own_move h (fun k hk => hW k (hq k hk) (own_lt h k hk))))

theorem MvS.then_ {St : World → Int → (Nat → Prop) → Prop} {w W W2 : World} {F F' F2 q q2 : Nat → Prop} {i j : Int} (h : MvS St w F W i q F') (g : MvS St W F' W2 j q2 F2) : MvS St w F W2 j (fun k => q k ∨ q2 k) F2 :=
  ⟨g.st, h.fr.then_ g.fr h.own, fun k hk => (g.own k hk).elim (h.own k) (fun q => .inr (Nat.le_trans h.fr.size q)), fun k hk hf => by
    rcases hk with hk | hk
    · rcases g.own k hf with q1 | q1
      · exact h.off k hk q1
      · have := (h.new k hk).2
        omega
    · exact g.off k hk hf, fun k hk => by
    rcases hk with hk | hk
    · exact ⟨(h.new k hk).1, Nat.lt_of_lt_of_le (h.new k hk).2 g.fr.size⟩
    · exact ⟨Nat.le_trans h.fr.size (g.new k hk).1, (g.new k hk).2⟩⟩

theorem at_room {m j n : Nat} (h : m = j) (hj : j < n) (hn : n ≤ 4294967296) : (m + 1) * 64 ≤ 140737488355328 := by omega

theorem walk_round {f : List Int → List Int → Int} {T : Nat} {u : Value} {kF kL kN kP kS kV kE kK kU : Nat} {L : List KV} {St : World → Int → (Nat → Prop) → Prop} (I : Iter f T u kF kL kN kP kS kV kE kK kU L St) {w w1 w2 : World} {F F' F2 q2 : Nat → Prop} {i j : Int} {v : Value} {xs : List S121} {A B : Option Addr} {c d : Nat} {a b : Bool} {l k : List Int} {z : Int}
    (hm : MvS St w F w1 i (fun _ => False) F') (hn : Kd.N k121 121 w1 w.heap.size (fun k => w.heap.size ≤ k ∧ ¬ F' k) v xs)
    (ho1 : w2.ownsRow w1.heap.size 5 1 (.slice A l.length c) l.length (nums .u8 l)) (ho2 : w2.ownsRow w1.heap.size 5 1 (.slice B k.length d) k.length (nums .u8 k)) (hm2 : MvS St w1 F' w2 j q2 F2)
    (hq1 : ∀ g, (Value.slice A l.length c).ownBlock = some g → q2 g) (hq2 : ∀ g, (Value.slice B k.length d).ownBlock = some g → q2 g) :
    Kd.FK k121 w2 q2 ⟨a, b, l, k, z⟩ [.bool a, .bool b, .slice A l.length c, .slice B k.length d, .int .i64 z] ∧ (∀ g, q2 g → (w.heap.size ≤ g ∧ ¬ F2 g) ∧ some g ≠ v.ownBlock) ∧ (∀ g, w2.heap.size ≤ g → w.heap.size ≤ g ∧ ¬ F2 g) ∧
      Kd.N k121 121 w2 w.heap.size (fun k => w.heap.size ≤ k ∧ ¬ F2 k) v xs ∧ w.heap.size ≤ w2.heap.size ∧ MvS St w F w2 j (fun _ => False) F2 := by
  have hs := hm.fr.size
  have hs2 := hm2.fr.size
  have hN := Kd.N_mono (Kd.N_step (Kd.N_bound hn) (fun k hk _ => hm2.fr.block k hk.2 hk.1.2)) (ok' := fun k => w.heap.size ≤ k ∧ ¬ F2 k) (fun k hk => ⟨hk.1.1, fun q => by
    rcases hm2.own k q with q1 | q1
    · exact hk.1.2 q1
    · have := hk.2
      omega⟩)
  refine ⟨k121_mkF w2 q2 ⟨a, b, l, k, z⟩ (own_cap ho1) (own_F ho1 hq1) (own_cap ho2) (own_F ho2 hq2), fun g hg => ⟨⟨Nat.le_trans hs (hm2.new g hg).1, hm2.off g hg⟩, fun e => ?_⟩, fun g hg => ⟨by omega, fun q => by have := I.inside _ _ _ hm2.st _ q; omega⟩, hN, by omega, ?_⟩
  · have h1 := Kd.N_lt hn g e.symm
    have h2 := (hm2.new g hg).1
    omega
  · exact (hm.then_ hm2).more (fun k hk => hk.elim)

theorem info_At : (Tryz.prog.info? 121).map (fun i => (i.zero, i.size, i.bytes)) = some (some (.agg #[.bool false, .bool false, .slice none 0 0, .slice none 0 0, .int .i64 0]), 5, 64) := by kernel_rfl

set_option maxHeartbeats 6400000 in
set_option maxRecDepth 100000 in
theorem walk_calls {f : List Int → List Int → Int} {T : Nat} {u : Value} {kF kL kN kP kS kV kE kK kU : Nat} {L : List KV} {St : World → Int → (Nat → Prop) → Prop} (I : Iter f T u kF kL kN kP kS kV kE kK kU L St) {w : World} {i : Int} {F ok : Nat → Prop} {A : Option Addr} {c : Nat} {ms : List S104}
    (h : St w i F) (hA : Kd.F k104 w ok A ms.length ms) (hb : ∀ m ∈ ms, Byt m.f1) (hne : ∀ k, ok k → k < w.heap.size → ¬ F k) (hold : ∀ k, ok k → ¬ w.heap.size ≤ k) (hL : ∀ x ∈ L, x.1.length ≤ 4294967296 ∧ x.2.length ≤ 4294967296) (hms : ms.length ≤ 4294967296) :
    Calls Tryz.prog 61 #[.iface T u, .slice A ms.length c] w fun e w' => ∃ v F', e = .returned v ∧ Kd.N k121 121 w' w.heap.size (fun k => w.heap.size ≤ k ∧ ¬ F' k) v (atsL f L i ms) ∧ MvS St w F w' (endL f L i ms) (fun _ => False) F' := by
  have HI := Lib.hid I
  have HM := Lib.hid (show MvS St w F w i (fun _ => False) F from ⟨h, Fr.refl _ _, fun k hk => .inl hk, fun k hk => hk.elim, fun k hk => hk.elim⟩)
  have HA := Lib.hid (And.intro hA (And.intro hb hne))
  have HL := Lib.hid (And.intro hL hms)
  have HOK := Lib.hid hold
  clear I h hA hb hne hL hms hold
  generalize hn : ms.length = n at *
  have HN := Lib.hid hn
  clear hn
  go_enter Tryz.func61, Tryz.ntmps61
  go_wp2
  go_loopg [4, 9] n (fun k v4 v9 w' => ∃ (j : Nat) (F' : Nat → Prop), v9 = .int .i64 (j : Int) ∧ Hid (j ≤ n ∧ n ≤ j + k) ∧ Hid (Kd.N k121 121 w' w.heap.size (fun k => w.heap.size ≤ k ∧ ¬ F' k) v4 (atsL f L i (ms.take j))) ∧ Hid (MvS St w F w' (endL f L i (ms.take j)) (fun _ => False) F'))
  case atStart => exact ⟨0, F, rfl, Lib.hid ⟨Nat.zero_le _, by omega⟩, Lib.hid (Kd.N_nil _ _ _ _ _), HM⟩
  case round =>
    obtain ⟨j, F', rfl, HJ, HNN, HMS⟩ := hrel
    by_cases hj : j < n
    · have hFr : Kd.F k104 wr ok A n ms := Kd.F_step HA.out.1 (fun k ho hk => HMS.out.fr.block k hk (HA.out.2.2 k ho hk))
      obtain ⟨ad, cs, rfl, hcl, hK, hcell, hokb⟩ := Kd.F_get hFr (⟨0, []⟩ : S104) (j : Int) (Int.natCast_nonneg _) (by omega)
      obtain ⟨A1, c1, rfl, hl1, hF1⟩ := k104_openF hK
      have r0 := hcell 0 _ rfl
      have r1 := hcell 1 _ rfl
      rw [Int.toNat_natCast] at r0 r1
      have e2 : j * k104.sz + 0 = j * 2 := rfl
      have e3 : j * k104.sz + 1 = j * 2 + 1 := rfl
      rw [e2] at r0
      rw [e3, add_field ad (j * 2) 1 (by omega)] at r1
      have hF1' : Kd.F (Kd.int .u8) wr ok A1 (ms.getD (j : Int).toNat (⟨0, []⟩ : S104)).f1.length (ms.getD (j : Int).toNat (⟨0, []⟩ : S104)).f1 := hF1
      rw [Int.toNat_natCast] at hF1'
      have hmem : ms.getD j (⟨0, []⟩ : S104) ∈ ms := by
        rw [List.getD_eq_getElem?_getD, List.getElem?_eq_getElem (by rw [HN.out]; exact hj)]
        exact List.getElem_mem _
      have HTK := Lib.hid (take_next (l := ms) (i := j) (by rw [HN.out]; exact hj) (⟨0, []⟩ : S104))
      have HBY := Lib.hid (HA.out.2.1 _ hmem)
      generalize ms.getD j (⟨0, []⟩ : S104) = m at *
      have HF1 := Lib.hid hF1'
      have z0 : decide ((j : Int) < (n : Int)) = true := decide_eq_true (by omega)
      clear hF1' hF1 hcell hK hcl e2 e3 hmem hFr hokb hl1
      go_upto_region 4 with (fail)
      have hb1 := below_alloc (Below.refl wr.heap.size wr) (.cells #[.int .i64 m.f0, .slice A1 m.f1.length c1] 104)
      have k0 : (wr.alloc (.cells #[.int .i64 m.f0, .slice A1 m.f1.length c1] 104)).cell? ⟨wr.heap.size, 0, none⟩ = some (.int .i64 m.f0) := (blk_cell (blk_new wr _) 0).trans rfl
      have k1 : (wr.alloc (.cells #[.int .i64 m.f0, .slice A1 m.f1.length c1] 104)).cell? ⟨wr.heap.size, 1, none⟩ = some (.slice A1 m.f1.length c1) := (blk_cell (blk_new wr _) 1).trans rfl
      have HM1 := Lib.hid (HMS.out.below HI.out hb1)
      have HN1 := Lib.hid (Kd.N_below HNN.out hb1)
      have HMV := Lib.hid (move_calls (d := m.f0) (ca := c1) HI.out HM1.out.st (Kd.F_now (Kd.F_below HF1.out hb1)) HBY.out (fun hp a ha hf => by
        have hok := Kd.F_in HF1.out ha hp (by decide)
        have hlt := Kd.C_lt (d := Kd.int .u8) (ad := a) (by have := Kd.F_now HF1.out; rw [ha] at this; exact this) hp (by decide)
        rcases HMS.out.own _ hf with q | q
        · exact HA.out.2.2 _ hok (by have := HI.out.inside _ _ _ HM.out.st _ q; omega) q
        · exact HOK.out _ hok q) HL.out.1)
      clear r0 r1 hb1 HNN HMS HF1
      generalize wr.alloc (.cells #[.int .i64 m.f0, .slice A1 m.f1.length c1] 104) = w1 at *
      have hjl : (atsL f L i (ms.take j)).length = j := by rw [atsL_len, List.length_take, HN.out]; omega
      have HJL := Lib.hid (And.intro hjl (And.intro hj HJ.out.2))
      have w1' : wrap64 ((j : Int) + 1) = (j : Int) + 1 := wz (by omega) (by have := HL.out.2; omega)
      clear hjl
      go_upto_region 5 with (first
        | (go_at_call 84; (with_reducible refine HMV.out.mono ?_); rintro e w2 ⟨A2, c2, B2, d2, F2, q2, rfl, ho1, ho2, hm2, hq1, hq2⟩; have HX := Lib.hid (walk_round (a := onL L (mvL f L (endL f L i (ms.take j)) m.f0 m.f1)) (b := onL L (mvL f L (endL f L i (ms.take j)) m.f0 m.f1)) (z := 0) HI.out HM1.out HN1.out ho1 ho2 hm2 hq1 hq2))
        | (at_builtin; go_loud (refine Kd.N_append k121 w.heap.size rfl (.tmp 13) (.tmp 17) 52 121 (.agg #[.bool false, .bool false, .slice none 0 0, .slice none 0 0, .int .i64 0]) 64 rfl Tryz.underlying52 info_At rfl (by decide) (by decide) _ _ _ _ _ _ rfl rfl HX.out.1 HX.out.2.1 HX.out.2.2.1 HX.out.2.2.2.1 (Below.refl _ _) HX.out.2.2.2.2.1 (at_room HJL.out.1 HJL.out.2.1 HL.out.2) ?_); intro v3 w3 hn3 hb3 hg3 hat3))
      have HMS3 := Lib.hid ((HX.out.2.2.2.2.2.grown HI.out hg3 (fun k hk => ⟨(HX.out.2.2.2.1.1 k hk).2, (HX.out.2.2.2.1.1 k hk).1⟩)).more (q2 := fun _ => False) (fun k hk => hk.elim))
      have HN3 := Lib.hid hn3
      clear hn3 hb3 hg3 hat3 ho1 ho2 hm2 hq1 hq2
      go_wp2
      go_roundg (gk - 1)
      case measure => exact round_less HJL.out.2.1 HJL.out.2.2
      case rel =>
        refine ⟨j + 1, F2, (by first | rfl | exact congrArg _ w1'), Lib.hid (round_next HJL.out.2.1 HJL.out.2.2), ?_, ?_⟩
        · rw [HTK.out, atsL_snoc]
          exact HN3
        · rw [HTK.out, endL_snoc]
          exact HMS3
    · have z0 : decide ((j : Int) < (n : Int)) = false := decide_eq_false (by omega)
      have hjn : j = n := by have := HJ.out.1; omega
      have HJN := Lib.hid hjn
      clear hjn
      go_wp2
      go_ret
      have e : ms.take j = ms := by rw [HJN.out, ← HN.out, List.take_length]
      have h1 := HNN.out
      have h2 := HMS.out
      rw [e] at h1 h2
      exact ⟨_, F', rfl, h1, h2⟩

set_option maxHeartbeats 1600000 in
theorem CursorNew_calls (o : Int) (A : Option Addr) (n c : Nat) (w : World) :
    Calls Tryz.prog 63 #[.int .i64 o, .slice A n c] w fun e w' => e = .returned (curV o A n c (-1)) ∧ Below w.heap.size w w' := by
  have hb := below_alloc (Below.refl w.heap.size w) (.cells #[.int .i64 o, .slice A n c, .int .i64 (-1)] 116)
  have HB := Lib.hid hb
  have hk := blk_new w (.cells #[.int .i64 o, .slice A n c, .int .i64 (-1)] 116)
  have k0 := (blk_cell hk 0).trans rfl
  have k1 := (blk_cell hk 1).trans rfl
  have k2 := (blk_cell hk 2).trans rfl
  clear hb hk
  go_enter Tryz.func63, Tryz.ntmps63
  go_wp2
  simp [bodyPost, results, Tryz.results63, go_sem, k0, k1, k2]
  exact ⟨rfl, HB.out⟩

theorem atsL_at (f : List Int → List Int → Int) (L : List KV) (m : S104) : ∀ (ms : List S104) (i : Int) (j : Nat), j < ms.length → ms.getD j (⟨0, []⟩ : S104) = m → (atsL f L i ms).getD j (⟨false, false, [], [], 0⟩ : S121) = ⟨onL L (mvL f L (endL f L i (ms.take j)) m.f0 m.f1), onL L (mvL f L (endL f L i (ms.take j)) m.f0 m.f1), keyL L (mvL f L (endL f L i (ms.take j)) m.f0 m.f1), valL L (mvL f L (endL f L i (ms.take j)) m.f0 m.f1), 0⟩ := by
  intro ms
  induction ms with
  | nil => intro i j h; simp at h
  | cons x r ih =>
    intro i j h hm
    cases j with
    | zero =>
      simp only [List.getD_cons_zero] at hm
      subst hm
      simp [atsL, endL]
    | succ j =>
      simp only [List.getD_cons_succ] at hm
      simp only [List.length_cons] at h
      simp only [atsL, List.getD_cons_succ, List.take_succ_cons, endL]
      exact ih _ j (by omega) hm

theorem mvL_in (f : List Int → List Int → Int) (L : List KV) (i d : Int) (key : List Int) (hi : -1 ≤ i ∧ i ≤ (L.length : Int)) : -1 ≤ mvL f L i d key ∧ mvL f L i d key ≤ (L.length : Int) := by
  have h := findL_le f key L
  unfold mvL
  split
  · omega
  · split
    · omega
    · split
      · split <;> omega
      · split
        · split <;> omega
        · omega
theorem endL_in (f : List Int → List Int → Int) (L : List KV) : ∀ (ms : List S104) (i : Int), (-1 ≤ i ∧ i ≤ (L.length : Int)) → -1 ≤ endL f L i ms ∧ endL f L i ms ≤ (L.length : Int) := by
  intro ms
  induction ms with
  | nil => intro i h; exact h
  | cons x r ih => intro i h; exact ih _ (mvL_in f L i _ _ h)

theorem at_at {w : World} {ok : Nat → Prop} {A : Option Addr} {n : Nat} {l : List S121} (h : Kd.F k121 w ok A n l) {j : Nat} (hj : j < n) {x : S121} (hx : l.getD j (⟨false, false, [], [], 0⟩ : S121) = x) :
    ∃ ad A1 c1 A2 c2, A = some ad ∧ w.cell? (ad.add (j * 5)) = some (.bool x.f0) ∧ w.cell? ⟨(ad.add (j * 5)).block, (ad.add (j * 5)).off + 1, none⟩ = some (.bool x.f1) ∧ w.cell? ⟨(ad.add (j * 5)).block, (ad.add (j * 5)).off + 2, none⟩ = some (.slice A1 x.f2.length c1) ∧ w.cell? ⟨(ad.add (j * 5)).block, (ad.add (j * 5)).off + 3, none⟩ = some (.slice A2 x.f3.length c2) ∧ w.cell? ⟨(ad.add (j * 5)).block, (ad.add (j * 5)).off + 4, none⟩ = some (.int .i64 x.f4) ∧ Kd.F (Kd.int .u8) w ok A1 x.f2.length x.f2 ∧ Kd.F (Kd.int .u8) w ok A2 x.f3.length x.f3 ∧ x.f2.length ≤ c1 ∧ x.f3.length ≤ c2 := by
  obtain ⟨ad, cs', rfl, hcl, hK, hcell, hokb⟩ := Kd.F_get h (⟨false, false, [], [], 0⟩ : S121) (j : Int) (Int.natCast_nonneg _) (by omega)
  obtain ⟨A1, c1, A2, c2, rfl, hl1, hF1, hl2, hF2⟩ := k121_openF hK
  have r0 := hcell 0 _ rfl
  have r1 := hcell 1 _ rfl
  have r2 := hcell 2 _ rfl
  have r3 := hcell 3 _ rfl
  have r4 := hcell 4 _ rfl
  rw [Int.toNat_natCast, hx] at r0 r1 r2 r3 r4 hF1 hF2 hl1 hl2
  have e1 : j * k121.sz + 1 = j * 5 + 1 := rfl
  have e2 : j * k121.sz + 2 = j * 5 + 2 := rfl
  have e3 : j * k121.sz + 3 = j * 5 + 3 := rfl
  have e4 : j * k121.sz + 4 = j * 5 + 4 := rfl
  rw [e1, add_field ad (j * 5) 1 (by omega)] at r1
  rw [e2, add_field ad (j * 5) 2 (by omega)] at r2
  rw [e3, add_field ad (j * 5) 3 (by omega)] at r3
  rw [e4, add_field ad (j * 5) 4 (by omega)] at r4
  exact ⟨ad, A1, c1, A2, c2, rfl, r0, r1, r2, r3, r4, hF1, hF2, hl1, hl2⟩

theorem sp_fr_set {w w1 : World} {it j : Nat} (h : Fr w w1 (fun k => k = it)) (v : Value) : Fr w (w1.setCell ⟨it, j, none⟩ v) (fun k => k = it) := h.setCell (p := ⟨it, j, none⟩) (.inl rfl) v
theorem sp_fr_below {w w1 w2 : World} {it : Nat} (h : Fr w w1 (fun k => k = it)) (hb : Below w1.heap.size w1 w2) : Fr w w2 (fun k => k = it) := h.then_ (Fr.of_below hb (fun _ => False)) (fun k hk => hk.elim)

theorem keyC_on {l : List S36} {i : Int} (h : onL (kvC l) i = true) : ∃ p : Nat, i = (p : Int) ∧ p < l.length ∧ keyL (kvC l) i = (l.getD p (⟨[], []⟩ : S36)).f0 ∧ valL (kvC l) i = (l.getD p (⟨[], []⟩ : S36)).f1 := by
  have h2 := h
  unfold onL at h2
  rw [kvC_len, Bool.and_eq_true, decide_eq_true_iff, decide_eq_true_iff] at h2
  refine ⟨i.toNat, by omega, by omega, ?_, ?_⟩
  · unfold keyL
    rw [if_pos h, List.getD_eq_getElem?_getD, kvC_get, List.getElem?_eq_getElem (by omega)]
    simp [List.getD_eq_getElem?_getD, List.getElem?_eq_getElem (show i.toNat < l.length by omega)]
  · unfold valL
    rw [if_pos h, List.getD_eq_getElem?_getD, kvC_get, List.getElem?_eq_getElem (by omega)]
    simp [List.getD_eq_getElem?_getD, List.getElem?_eq_getElem (show i.toNat < l.length by omega)]
theorem keyC_off {l : List S36} {i : Int} (h : onL (kvC l) i = false) : keyL (kvC l) i = [] ∧ valL (kvC l) i = [] := by
  unfold keyL valL
  rw [h]
  exact ⟨rfl, rfl⟩

theorem two_new2 (w : World) (x y : Array Value) (t u : TypeId) : ((w.alloc (.cells x t)).alloc (.cells y u)).heap[w.heap.size]? = some (.cells x t (0, 0)) ∧ ((w.alloc (.cells x t)).alloc (.cells y u)).heap[w.heap.size + 1]? = some (.cells y u (0, 0)) ∧ Below w.heap.size w ((w.alloc (.cells x t)).alloc (.cells y u)) := by
  have h1 := below_alloc (Below.refl w.heap.size w) (.cells x t)
  have n1 := blk_new w (.cells x t)
  have n2 := blk_new (w.alloc (.cells x t)) (.cells y u)
  rw [World.size_alloc] at n2
  have h2 := below_alloc (Below.refl (w.alloc (.cells x t)).heap.size (w.alloc (.cells x t))) (.cells y u)
  exact ⟨(h2.block _ (blk_lt n1)).trans n1, n2, h1.trans (h2.mono h1.size)⟩

def CurAt (W : World) (g : Nat) (o : Int) (A : Option Addr) (n c : Nat) (i : Int) : Prop := W.heap[g]? = some (.cells #[.int .i64 o, .slice A n c, .int .i64 i] 116 (0, 0))

set_option maxHeartbeats 6400000 in
set_option maxRecDepth 100000 in
theorem walked_calls {w : World} {okl okm okg : Nat → Prop} {A Am Ag : Option Addr} {n c mn cm cg : Nat} {l : List S36} {ms : List S104} (o : Int)
    (hL : Kd.F k36 w okl A n l) (hn : l.length = n) (hc : n ≤ c) (hx : ∀ x ∈ l, x.f0.length ≤ 4294967296) (hl : n ≤ 4294967296)
    (hM : Kd.F k104 w okm Am mn ms) (hmn : ms.length = mn) (hml : mn ≤ 4294967296) (hmk : ∀ m ∈ ms, m.f1.length ≤ 4294967296)
    (hG : Kd.F k121 w okg Ag mn (atsL (cmpO o) (kvC l) (-1) ms)) :
    Calls Tryz.prog 27 #[.int .i64 o, .slice A n c, .slice Am mn cm, .slice Ag mn cg] w fun e w' => e = .returned (.bool true) ∧ Below w.heap.size w w' := by
  have HL := Lib.hid (And.intro hL (And.intro hn (And.intro hc (And.intro hx hl))))
  have HM := Lib.hid (And.intro hM (And.intro hmn (And.intro hml hmk)))
  have HG := Lib.hid hG
  clear hL hn hc hx hl hM hmn hml hmk hG
  have z0 : ((mn : Int) != (mn : Int)) = false := by simp
  go_enter Tryz.func27, Tryz.ntmps27
  go_wp2_with (go_at_call 63; (with_reducible refine (CursorNew_calls _ _ _ _ _).mono ?_); rintro e w1 ⟨rfl, hb1⟩; unfold curV)
  have hb2 := hb1.trans ((below_alloc (Below.refl w1.heap.size w1) (.cells #[.int .i64 o, .slice A n c, .int .i64 (-1)] 116)).mono hb1.size)
  have HC0 : Hid (CurAt (w1.alloc (.cells #[.int .i64 o, .slice A n c, .int .i64 (-1)] 116)) w1.heap.size o A n c (-1)) := Lib.hid (blk_new w1 _)
  have HGE := Lib.hid hb1.size
  have HB2 := Lib.hid hb2
  clear hb1 hb2
  generalize w1.alloc (.cells #[.int .i64 o, .slice A n c, .int .i64 (-1)] 116) = w2 at *
  generalize w1.heap.size = g at *
  go_loopg [10] mn (fun k v10 w' => ∃ j : Nat, v10 = .int .i64 (j : Int) ∧ Hid (j ≤ mn ∧ mn ≤ j + k) ∧ Hid (CurAt w' g o A n c (endL (cmpO o) (kvC l) (-1) (ms.take j))) ∧ Hid (Below w.heap.size w w'))
  case atStart => exact ⟨0, rfl, Lib.hid ⟨by omega, by omega⟩, HC0, HB2⟩
  case round =>
    obtain ⟨j, rfl, HJ, HC, HB⟩ := hrel
    by_cases hj : j < mn
    · have y0 : decide ((j : Int) < (mn : Int)) = true := decide_eq_true (by omega)
      have y1 : (j : Int) < (mn : Int) := by omega
      have x0 : wrap64 ((j : Int) + 1) = (j : Int) + 1 := by have := HM.out.2.2.1; unfold wrap64; omega
      obtain ⟨m, hm⟩ : ∃ m, ms.getD j (⟨0, []⟩ : S104) = m := ⟨_, rfl⟩
      have hjl : j < ms.length := by rw [HM.out.2.1]; exact hj
      have hmem : m ∈ ms := by
        rw [← hm, List.getD_eq_getElem?_getD, List.getElem?_eq_getElem hjl]
        exact List.getElem_mem _
      have htk := sp_take (l := ms) (i := j) hjl (⟨0, []⟩ : S104)
      rw [hm] at htk
      have hat := atsL_at (cmpO o) (kvC l) m ms (-1) j hjl hm
      have hin := endL_in (cmpO o) (kvC l) (ms.take j) (-1) ⟨by omega, by omega⟩
      have hin2 := mvL_in (cmpO o) (kvC l) (endL (cmpO o) (kvC l) (-1) (ms.take j)) m.f0 m.f1 hin
      rw [kvC_len, HL.out.2.1] at hin hin2
      have hend : endL (cmpO o) (kvC l) (-1) (ms.take (j + 1)) = mvL (cmpO o) (kvC l) (endL (cmpO o) (kvC l) (-1) (ms.take j)) m.f0 m.f1 := by rw [htk, endL_snoc]
      obtain ⟨ad2, B, bc, hA2, s0, s1, hMF, hbc⟩ := mv_at (Kd.F_below HM.out.1 HB.out) hj hm
      subst hA2
      have HMV : ∀ W, Below wr.heap.size wr W → Hid (Calls Tryz.prog 64 #[curV o A n c (endL (cmpO o) (kvC l) (-1) (ms.take j)), .int .i64 m.f0, .slice B m.f1.length bc] W fun e w' => CmTold o A n c (kvC l) W (mvL (cmpO o) (kvC l) (endL (cmpO o) (kvC l) (-1) (ms.take j)) m.f0 m.f1) e w') := fun W hW => Lib.hid (move_c o _ _ (Kd.F_now (Kd.F_below (Kd.F_below HL.out.1 HB.out) hW)) HL.out.2.1 HL.out.2.2.1 (Kd.F_now (Kd.F_below hMF hW)) hbc (HM.out.2.2.2 m hmem) HL.out.2.2.2.1 HL.out.2.2.2.2 hin)
      rw [hend.symm] at hin2 HMV hat
      generalize endL (cmpO o) (kvC l) (-1) (ms.take j) = i0 at *
      generalize hi1 : endL (cmpO o) (kvC l) (-1) (ms.take (j + 1)) = i1 at *
      have HI1 := Lib.hid hi1
      have HJJ := Lib.hid hj
      have HIN := Lib.hid hin2
      have HAT := Lib.hid hat
      clear hi1 hj hin hin2 hm hjl hmem htk hat hend hMF hbc
      go_upto_region 8 with (fail)
      go_cut [11] (fun v11 wc => v11 = .bool (onL (kvC l) i1) ∧ Hid (CurAt wc g o A n c i1) ∧ Hid (Fr wr wc (fun k => k = g)))
      case first =>
        have hcur : wr.drew.heap[g]? = some (.cells #[.int .i64 o, .slice A n c, .int .i64 i0] 116 (0, 0)) := HC.out
        have q0 : wr.drew.cell? ⟨g, 0, none⟩ = some (.int .i64 o) := (blk_cell hcur 0).trans rfl
        have q1 : wr.drew.cell? ⟨g, 1, none⟩ = some (.slice A n c) := (blk_cell hcur 1).trans rfl
        have q2 : wr.drew.cell? ⟨g, 2, none⟩ = some (.int .i64 i0) := (blk_cell hcur 2).trans rfl
        have t0 : wr.drew.cell? (ad2.add (j * 2)) = some (.int .i64 m.f0) := s0
        have t1 : wr.drew.cell? ⟨(ad2.add (j * 2)).block, (ad2.add (j * 2)).off + 1, none⟩ = some (.slice B m.f1.length bc) := s1
        have HMD := HMV wr.drew (below_drew (Below.refl _ _))
        unfold curV at HMD
        have HCU := Lib.hid hcur
        have HFD := Lib.hid (Fr.of_below (below_drew (Below.refl wr.heap.size wr)) (fun k => k = g))
        clear hcur HMV s0 s1
        rename_i J K hJ hK
        go_region_with ((with_reducible refine HMD.out.mono ?_); rintro e w4 ⟨rfl, hb4⟩; unfold curV; have h4 := (hb4.block g (blk_lt HCU.out)).trans HCU.out; have p0 := (blk_cell h4 0).trans rfl; have p1 := (blk_cell h4 1).trans rfl; have p2 := (blk_cell h4 2).trans rfl; have f0 := blk_frozen h4 0; have f1 := blk_frozen h4 1; have f2 := blk_frozen h4 2)
        all_goals (
          simp only [Exit.then]
          refine hK _ _ (Met.intro (hJ _ _ ?_))
          repeat apply Exists.intro
          refine ⟨?_, rfl⟩
          refine ⟨rfl, Lib.hid ((blk_set (blk_set (blk_set h4 0 _) 1 _) 2 _).trans rfl), Lib.hid (sp_fr_set (sp_fr_set (sp_fr_set (sp_fr_below HFD.out hb4) _) _) _)⟩)
      case rest =>
        obtain ⟨rfl, HC2, HF2⟩ := hcut
        have hB2 := sp_below_fr HB.out HB.out.size HF2.out (fun k hk => by rw [hk]; exact HGE.out)
        have HB2 := Lib.hid hB2
        obtain ⟨ad3, B1, d1, B2, d2, hA3, r0, r1, r2, r3, r4, hF1, hF2, hd1, hd2⟩ := at_at (Kd.F_below HG.out hB2) HJJ.out HAT.out
        subst hA3
        dsimp only at r0 r1 r2 r3 r4 hF1 hF2 hd1 hd2
        have q1 : wc.cell? ⟨g, 1, none⟩ = some (.slice A n c) := (blk_cell HC2.out 1).trans rfl
        have q2 : wc.cell? ⟨g, 2, none⟩ = some (.int .i64 i1) := (blk_cell HC2.out 2).trans rfl
        clear hB2 s0 s1 HMV
        cases hon : onL (kvC l) i1 with
        | true =>
          obtain ⟨p, rfl, hp, hkk, hvv⟩ := keyC_on hon
          have hp' : p < n := by rw [← HL.out.2.1]; exact hp
          obtain ⟨ad, K, kc, V, vc, hAA, u0, u1, hKF, hVF, hkc, hvc⟩ := cp_at (Kd.F_below HL.out.1 HB2.out) hp' rfl
          subst hAA
          rw [hkk] at r2 hF1 hd1
          rw [hvv] at r3 hF2 hd2
          rw [hon] at r0 r1
          generalize l.getD p (⟨[], []⟩ : S36) = x at *
          have SK : ∀ W, Below wc.heap.size wc W → Hid (Calls Tryz.prog 20 #[.slice B1 x.f0.length d1, .slice K x.f0.length kc] W fun e w' => e = .returned (.bool true) ∧ Below W.heap.size W w') := fun W hW => Lib.hid (by
            have := same_calls (Kd.F_now (Kd.F_below hF1 hW)) hd1 (Kd.F_now (Kd.F_below hKF hW)) hkc
            rw [decide_eq_true rfl] at this
            exact this)
          have SV : ∀ W, Below wc.heap.size wc W → Hid (Calls Tryz.prog 20 #[.slice B2 x.f1.length d2, .slice V x.f1.length vc] W fun e w' => e = .returned (.bool true) ∧ Below W.heap.size W w') := fun W hW => Lib.hid (by
            have := same_calls (Kd.F_now (Kd.F_below hF2 hW)) hd2 (Kd.F_now (Kd.F_below hVF hW)) hvc
            rw [decide_eq_true rfl] at this
            exact this)
          have v0 : (p : Int) < (n : Int) := by omega
          clear hKF hVF hF1 hF2 hkk hvv hp hp' hkc hvc hd1 hd2 hon
          go_upto_region 14 with (fail)
          have TW := Lib.hid (two_new2 wc #[.bool true, .bool true, .slice B1 x.f0.length d1, .slice B2 x.f1.length d2, .int .i64 0] #[.slice none 0 0, .slice none 0 0] 121 36)
          generalize (wc.alloc (.cells #[.bool true, .bool true, .slice B1 x.f0.length d1, .slice B2 x.f1.length d2, .int .i64 0] 121)).alloc (.cells #[.slice none 0 0, .slice none 0 0] 36) = w5 at *
          have q1' : w5.cell? ⟨g, 1, none⟩ = some (.slice (some ad) n c) := pw_cell_below TW.out.2.2 q1
          have q2' : w5.cell? ⟨g, 2, none⟩ = some (.int .i64 (p : Int)) := pw_cell_below TW.out.2.2 q2
          have u0' : w5.cell? (ad.add (p * 2)) = some (.slice K x.f0.length kc) := pw_cell_below TW.out.2.2 u0
          have u1' : w5.cell? ⟨(ad.add (p * 2)).block, (ad.add (p * 2)).off + 1, none⟩ = some (.slice V x.f1.length vc) := pw_cell_below TW.out.2.2 u1
          have m0 : w5.cell? ⟨wc.heap.size + 1, 0, none⟩ = some (.slice none 0 0) := (blk_cell TW.out.2.1 0).trans rfl
          have m1 : w5.cell? ⟨wc.heap.size + 1, 1, none⟩ = some (.slice none 0 0) := (blk_cell TW.out.2.1 1).trans rfl
          have f0 := blk_frozen TW.out.2.1 0
          have f1 := blk_frozen TW.out.2.1 1
          clear q1 q2 u0 u1 r0 r1 r2 r3 r4
          go_upto_region 15 with (fail)
          have b6 : Hid (Below wc.heap.size wc ((w5.setCell ⟨wc.heap.size + 1, 0, none⟩ (.slice K x.f0.length kc)).setCell ⟨wc.heap.size + 1, 1, none⟩ (.slice V x.f1.length vc))) := Lib.hid (below_set (g := wc.heap.size + 1) (j := 1) (below_set (g := wc.heap.size + 1) (j := 0) TW.out.2.2 (Nat.le_succ _)) (Nat.le_succ _))
          have c13 := Lib.hid (blk_set (blk_set TW.out.2.1 0 (.slice K x.f0.length kc)) 1 (.slice V x.f1.length vc))
          have c12 : Hid (((w5.setCell ⟨wc.heap.size + 1, 0, none⟩ (.slice K x.f0.length kc)).setCell ⟨wc.heap.size + 1, 1, none⟩ (.slice V x.f1.length vc)).heap[wc.heap.size]? = _) := Lib.hid (((Below.heap_setCell _ _ _ _ (by simp)).trans (Below.heap_setCell _ _ _ _ (by simp))).trans TW.out.1)
          generalize (w5.setCell ⟨wc.heap.size + 1, 0, none⟩ (.slice K x.f0.length kc)).setCell ⟨wc.heap.size + 1, 1, none⟩ (.slice V x.f1.length vc) = w6 at *
          have e2 : w6.cell? ⟨wc.heap.size, 2, none⟩ = some (.slice B1 x.f0.length d1) := (blk_cell c12.out 2).trans rfl
          have e3 : w6.cell? ⟨wc.heap.size, 3, none⟩ = some (.slice B2 x.f1.length d2) := (blk_cell c12.out 3).trans rfl
          have g0 : w6.cell? ⟨wc.heap.size + 1, 0, none⟩ = some (.slice K x.f0.length kc) := (blk_cell c13.out 0).trans rfl
          have g1 : w6.cell? ⟨wc.heap.size + 1, 1, none⟩ = some (.slice V x.f1.length vc) := (blk_cell c13.out 1).trans rfl
          clear q1' q2' u0' u1' m0 m1 f0 f1
          go_wp2_with (first
            | (go_at_call 20; (with_reducible refine (SK _ b6.out).out.mono ?_); rintro e w7 ⟨rfl, hb7⟩; have b7 := b6.out.trans (hb7.mono b6.out.size); have e3' := pw_cell_below hb7 e3; have g1' := pw_cell_below hb7 g1)
            | (go_at_call 20; (with_reducible refine (SV _ b7).out.mono ?_); rintro e w8 ⟨rfl, hb8⟩; have b8 := b7.trans (hb8.mono b7.size); have HC8 := Lib.hid ((b8.block g (blk_lt HC2.out)).trans HC2.out)))
          go_roundg (gk - 1)
          case measure => have := HJ.out; have := HJJ.out; omega
          case rel => exact ⟨j + 1, (by first | rfl | exact congrArg _ x0), Lib.hid (by have := HJ.out; have := HJJ.out; omega), Lib.hid (by rw [HI1.out]; exact HC8.out), Lib.hid (HB2.out.trans (b8.mono HB2.out.size))⟩
        | false =>
          obtain ⟨hkk, hvv⟩ := keyC_off hon
          rw [hkk] at r2 hF1 hd1
          rw [hvv] at r3 hF2 hd2
          rw [hon] at r0 r1
          simp only [List.length_nil] at r2 r3
          have SK : ∀ W, Below wc.heap.size wc W → Hid (Calls Tryz.prog 20 #[.slice B1 0 d1, .slice none 0 0] W fun e w' => e = .returned (.bool true) ∧ Below W.heap.size W w') := fun W hW => Lib.hid (by
            have := same_calls (k := []) (B := none) (d := 0) (Kd.F_now (Kd.F_below hF1 hW)) hd1 (Kd.F_now (Kd.F_nil _ _ (fun _ => True))) (Nat.le_refl _)
            rw [decide_eq_true rfl] at this
            exact this)
          have SV : ∀ W, Below wc.heap.size wc W → Hid (Calls Tryz.prog 20 #[.slice B2 0 d2, .slice none 0 0] W fun e w' => e = .returned (.bool true) ∧ Below W.heap.size W w') := fun W hW => Lib.hid (by
            have := same_calls (k := []) (B := none) (d := 0) (Kd.F_now (Kd.F_below hF2 hW)) hd2 (Kd.F_now (Kd.F_nil _ _ (fun _ => True))) (Nat.le_refl _)
            rw [decide_eq_true rfl] at this
            exact this)
          clear hF1 hF2 hkk hvv hd1 hd2 hon q1 q2
          go_upto_region 15 with (fail)
          have TW := Lib.hid (two_new2 wc #[.bool false, .bool false, .slice B1 0 d1, .slice B2 0 d2, .int .i64 0] #[.slice none 0 0, .slice none 0 0] 121 36)
          generalize (wc.alloc (.cells #[.bool false, .bool false, .slice B1 0 d1, .slice B2 0 d2, .int .i64 0] 121)).alloc (.cells #[.slice none 0 0, .slice none 0 0] 36) = w6 at *
          have e2 : w6.cell? ⟨wc.heap.size, 2, none⟩ = some (.slice B1 0 d1) := (blk_cell TW.out.1 2).trans rfl
          have e3 : w6.cell? ⟨wc.heap.size, 3, none⟩ = some (.slice B2 0 d2) := (blk_cell TW.out.1 3).trans rfl
          have g0 : w6.cell? ⟨wc.heap.size + 1, 0, none⟩ = some (.slice none 0 0) := (blk_cell TW.out.2.1 0).trans rfl
          have g1 : w6.cell? ⟨wc.heap.size + 1, 1, none⟩ = some (.slice none 0 0) := (blk_cell TW.out.2.1 1).trans rfl
          have b6 := Lib.hid TW.out.2.2
          clear r0 r1 r2 r3 r4
          go_wp2_with (first
            | (go_at_call 20; (with_reducible refine (SK _ b6.out).out.mono ?_); rintro e w7 ⟨rfl, hb7⟩; have b7 := b6.out.trans (hb7.mono b6.out.size); have e3' := pw_cell_below hb7 e3; have g1' := pw_cell_below hb7 g1)
            | (go_at_call 20; (with_reducible refine (SV _ b7).out.mono ?_); rintro e w8 ⟨rfl, hb8⟩; have b8 := b7.trans (hb8.mono b7.size); have HC8 := Lib.hid ((b8.block g (blk_lt HC2.out)).trans HC2.out)))
          go_roundg (gk - 1)
          case measure => have := HJ.out; have := HJJ.out; omega
          case rel => exact ⟨j + 1, (by first | rfl | exact congrArg _ x0), Lib.hid (by have := HJ.out; have := HJJ.out; omega), Lib.hid (by rw [HI1.out]; exact HC8.out), Lib.hid (HB2.out.trans (b8.mono HB2.out.size))⟩
    · have y0 : decide ((j : Int) < (mn : Int)) = false := decide_eq_false (by omega)
      go_wp2
      go_ret
      exact ⟨rfl, HB.out⟩

end Go.Proofs.YtdkkkikcigjlhaaGreatDoor.Md

namespace Go.Proofs.YtdkkkikcigjlhaaGreatDoor.PFnMemMap
open Go.RowKit Go.Proofs.YtdkkkikcigjlhaaGreatDoorW.PrintWords Go.Proofs.YtdkkkikcigjlhaaGreatDoorW.PrintLast Go.Proofs.YtdkkkikcigjlhaaGreatDoorW.PrintMore
attribute [local go_sem] max2_int min2_int max_two min_two max_three min_three max_four min_four   -- for this text's walks alone

/-! ### laws_zzFits20: function 56 -/
/-! ### laws_zzFits19: function 21 -/
/-! ### laws_zzFits23: function 57 -/
/-! ### laws_zzFits22: function 22 -/
/-! ### laws_zzFits21: function 29 -/
end Go.Proofs.YtdkkkikcigjlhaaGreatDoor.PFnMemMap

namespace Go.Proofs.YtdkkkikcigjlhaaGreatDoor.PFnMemMap
open Go.RowKit Go.Proofs.YtdkkkikcigjlhaaGreatDoorW.PrintWords Go.Proofs.YtdkkkikcigjlhaaGreatDoorW.PrintLast Go.Proofs.YtdkkkikcigjlhaaGreatDoorW.PrintMore
attribute [local go_sem] max2_int min2_int max_two min_two max_three min_three max_four min_four   -- for this text's walks alone

/-! ### spec_CursorRange: function 32 -/
end Go.Proofs.YtdkkkikcigjlhaaGreatDoor.PFnMemMap

namespace Go.Proofs.YtdkkkikcigjlhaaGreatDoor.PFnMemMap
open Go.RowKit Go.Proofs.YtdkkkikcigjlhaaGreatDoorW.PrintWords Go.Proofs.YtdkkkikcigjlhaaGreatDoorW.PrintLast Go.Proofs.YtdkkkikcigjlhaaGreatDoorW.PrintMore
attribute [local go_sem] max2_int min2_int max_two min_two max_three min_three max_four min_four   -- for this text's walks alone

/-! ### spec_CursorRises: function 25 -/
end Go.Proofs.YtdkkkikcigjlhaaGreatDoor.PFnMemMap

namespace Go.Proofs.YtdkkkikcigjlhaaGreatDoor.Md
open Go.RowKit Go.Proofs.YtdkkkikcigjlhaaGreatDoor.Con Go.Proofs.YtdkkkikcigjlhaaGreatDoor.Run Go.Proofs.YtdkkkikcigjlhaaGreatDoorW.PrintWords Go.Proofs.YtdkkkikcigjlhaaGreatDoorW.PrintMore Go.Proofs.YtdkkkikcigjlhaaGreatDoor.Cmp Go.Sort Go.RwLone Go.Proofs.YtdkkkikcigjlhaaGreatDoor.PFnMemMap

theorem s_rd44 (l : List S44) (i : Nat) (h : i < l.length) : rd_T44 l (i : Int) = l.getD i (⟨[], []⟩ : S44) := by
  simp [rd_T44, List.getD_eq_getElem?_getD, h]
theorem s_rd36 (l : List S36) (i : Nat) (h : i < l.length) : rd_T36 l (i : Int) = l.getD i (⟨[], []⟩ : S36) := by
  simp [rd_T36, List.getD_eq_getElem?_getD, h]
theorem s_drop {α : Type} {l : List α} {i : Nat} (h : i < l.length) (z : α) : l.drop i = l.getD i z :: l.drop (i + 1) := by
  rw [List.drop_eq_getElem_cons h]
  simp [List.getD_eq_getElem?_getD, List.getElem?_eq_getElem h]
theorem s_up {i n : Nat} (h : i < n) (hn : n ≤ 4294967296) : wrap64 ((i : Int) + 1) = ((i + 1 : Nat) : Int) := by unfold wrap64; omega

theorem pairs_l0 (l : List S44) (hl : l.length ≤ 4294967296) (d : Nat) : ∀ i : Nat, l.length - i = d → i ≤ l.length → ∀ k, d + 1 ≤ k → laws_pairs.l0 k l (asC (l.take i)) (i : Int) = some (asC l) := by
  induction d with
  | zero =>
    intro i h1 h2 k hk
    obtain ⟨k, rfl⟩ : ∃ q, k = q + 1 := ⟨k - 1, by omega⟩
    rw [laws_pairs.l0, if_neg (by omega), List.take_of_length_le (by omega)]
  | succ d ih =>
    intro i h1 h2 k hk
    obtain ⟨k, rfl⟩ : ∃ q, k = q + 1 := ⟨k - 1, by omega⟩
    have hi : i < l.length := by omega
    have htk := sp_take hi (⟨[], []⟩ : S44)
    have hlen : (asC (l.take i)).length = i := by unfold asC; rw [List.length_map, List.length_take]; omega
    rw [laws_pairs.l0, if_pos (by omega), if_pos (by omega), if_pos (by rw [hlen]; omega), s_rd44 l i hi, s_up hi hl]
    have e : asC (l.take i) ++ [(⟨(l.getD i (⟨[], []⟩ : S44)).f0, (l.getD i (⟨[], []⟩ : S44)).f1⟩ : S36)] = asC (l.take (i + 1)) := by rw [htk]; simp [asC]
    rw [e]
    exact ih (i + 1) (by omega) (by omega) k (by omega)

def PrTold (ok : Nat → Prop) (l : List S44) (w : World) (e : Ending) (w' : World) : Prop :=
  ∃ A c, e = .returned (.slice A l.length c) ∧ l.length ≤ c ∧ Kd.F k36 w' (fun k => ok k ∨ w.heap.size ≤ k) A l.length (asC l) ∧ Below w.heap.size w w'

theorem asC_len (l : List S44) : (asC l).length = l.length := List.length_map _

theorem pairs_calls {w : World} {ok : Nat → Prop} {A : Option Addr} {c : Nat} {l : List S44} (hA : Kd.F k44 w ok A l.length l) (hc : l.length ≤ c) (hl : l.length ≤ 4294967296) :
    Calls Tryz.prog 26 #[.slice A l.length c] w fun e w' => PrTold ok l w e w' := by
  have h := pairs_l0 l hl l.length 0 (by omega) (by omega) _ (Nat.le_refl _)
  refine (laws_pairs.calls (l.length + 1) ok A c l (asC l) w (Kd.V_mk hc hA) h).mono ?_
  rintro e w' ⟨v, rfl, hN, hb⟩
  obtain ⟨A', c', rfl⟩ := Kd.N_slice hN
  have h2 := (Kd.N_reads' hN).2.1
  have h3 := Kd.N_F hN
  rw [asC_len] at h2 h3
  exact ⟨A', c', by rw [asC_len], h2, h3, hb⟩

def FitTold (P : Prop) (w : World) (e : Ending) (w' : World) : Prop := ∃ b, e = .returned (.bool b) ∧ Hid (b = true → P) ∧ Below w.heap.size w w'

theorem one_byte {w : World} {g : Nat} {b : Int} {fr : Nat × Nat} {e : TypeId} (h : w.heap[g]? = some (.cells #[.int .u8 b] e fr)) : Kd.C (Kd.int .u8) w (some ⟨g, 0, none⟩) ([b] : List Int).length [b] := by
  refine ints_C ⟨rfl, by simp, fun _ => ⟨_, rfl, fun j hj => ?_⟩⟩
  have : j = 0 := by simp at hj; omega
  subst this
  rw [add_zero, cell_of_row w g 0 _ e fr h]
  rfl

theorem add_in (g i : Nat) : (⟨g, 0, none⟩ : Addr).add i = ⟨g, i, none⟩ := by
  unfold Addr.add
  split
  · rename_i e; subst e; rfl
  · simp

abbrev litL : List S44 := [⟨[97], [49]⟩, ⟨[98], []⟩]
abbrev litC (g : Nat) : Array Value := #[.slice (some ⟨g, 0, none⟩) 1 1, .slice (some ⟨g + 1, 0, none⟩) 1 1, .slice (some ⟨g + 1 + 1, 0, none⟩) 1 1, .slice none 0 0]
abbrev litW (w : World) : World := (((w.alloc (.cells #[.int .u8 97] 5 (1, 2))).alloc (.cells #[.int .u8 49] 5 (1, 2))).alloc (.cells #[.int .u8 98] 5 (1, 2))).alloc (.cells (litC w.heap.size) 44)

theorem lit_below (w : World) : Below w.heap.size w (litW w) ∧ (litW w).heap[w.heap.size]? = some (.cells #[.int .u8 97] 5 (1, 2)) ∧ (litW w).heap[w.heap.size + 1]? = some (.cells #[.int .u8 49] 5 (1, 2)) ∧ (litW w).heap[w.heap.size + 1 + 1]? = some (.cells #[.int .u8 98] 5 (1, 2)) ∧ (litW w).heap[w.heap.size + 1 + 1 + 1]? = some (.cells (litC w.heap.size) 44 (0, 0)) := by
  have b1 := below_alloc (Below.refl w.heap.size w) (.cells #[.int .u8 97] 5 (1, 2))
  have n1 := blk_new w (.cells #[.int .u8 97] 5 (1, 2))
  have s1 := World.size_alloc w (.cells #[.int .u8 97] 5 (1, 2))
  unfold litW
  generalize w.alloc (.cells #[.int .u8 97] 5 (1, 2)) = w1 at *
  have b2 := below_alloc (Below.refl w1.heap.size w1) (.cells #[.int .u8 49] 5 (1, 2))
  have n2 := blk_new w1 (.cells #[.int .u8 49] 5 (1, 2))
  have s2 := World.size_alloc w1 (.cells #[.int .u8 49] 5 (1, 2))
  generalize w1.alloc (.cells #[.int .u8 49] 5 (1, 2)) = w2 at *
  have b3 := below_alloc (Below.refl w2.heap.size w2) (.cells #[.int .u8 98] 5 (1, 2))
  have n3 := blk_new w2 (.cells #[.int .u8 98] 5 (1, 2))
  have s3 := World.size_alloc w2 (.cells #[.int .u8 98] 5 (1, 2))
  generalize w2.alloc (.cells #[.int .u8 98] 5 (1, 2)) = w3 at *
  have b4 := below_alloc (Below.refl w3.heap.size w3) (.cells (litC w.heap.size) 44)
  have n4 := blk_new w3 (.cells (litC w.heap.size) 44)
  generalize w3.alloc (.cells (litC w.heap.size) 44) = w4 at *
  have e1 : w1.heap.size = w.heap.size + 1 := s1
  have e2 : w2.heap.size = w.heap.size + 1 + 1 := by rw [s2, e1]
  have e3 : w3.heap.size = w.heap.size + 1 + 1 + 1 := by rw [s3, e2]
  rw [e1] at n2
  rw [e2] at n3
  rw [e3] at n4
  have b12 := b1.trans (b2.mono b1.size)
  have b13 := b12.trans (b3.mono b12.size)
  refine ⟨b13.trans (b4.mono b13.size), ?_, ?_, ?_, n4⟩
  · exact (b4.block _ (by omega)).trans ((b3.block _ (by omega)).trans ((b2.block _ (by omega)).trans n1))
  · exact (b4.block _ (by omega)).trans ((b3.block _ (by omega)).trans n2)
  · exact (b4.block _ (by omega)).trans n3

theorem lit_C {W : World} {g : Nat} (h0 : W.heap[g]? = some (.cells #[.int .u8 97] 5 (1, 2))) (h1 : W.heap[g + 1]? = some (.cells #[.int .u8 49] 5 (1, 2))) (h2 : W.heap[g + 1 + 1]? = some (.cells #[.int .u8 98] 5 (1, 2))) (h3 : W.heap[g + 1 + 1 + 1]? = some (.cells (litC g) 44 (0, 0))) :
    Kd.C k44 W (some ⟨g + 1 + 1 + 1, 0, none⟩) 2 litL := by
  refine ⟨rfl, by decide, fun _ => ⟨_, rfl, fun j p hj => ?_⟩⟩
  rcases j with _ | _ | j
  · simp only [List.getElem?_cons_zero, Option.some.injEq] at hj
    subst hj
    refine ⟨_, rfl, k44_mk W ⟨[97], [49]⟩ (c0 := 1) (by simp) (one_byte h0) (c1 := 1) (by simp) (one_byte h1), fun i u hu => ?_⟩
    have e : 0 * k44.sz + i = i := by rw [Nat.zero_mul, Nat.zero_add]
    rw [e, add_in, cell_of_row _ _ i _ _ _ h3]
    rcases i with _ | _ | i
    · simpa using hu
    · simpa using hu
    · simp at hu
  · simp only [List.getElem?_cons_succ, List.getElem?_cons_zero, Option.some.injEq] at hj
    subst hj
    refine ⟨_, rfl, k44_mk W ⟨[98], []⟩ (c0 := 1) (by simp) (one_byte h2) (A1 := none) (c1 := 0) (by simp) (Kd.F_now (Kd.F_nil _ _ (fun _ => True))), fun i u hu => ?_⟩
    have e : 1 * k44.sz + i = 2 + i := by show 1 * 2 + i = 2 + i; omega
    rw [show (0 + 1) * k44.sz + i = 2 + i from e, add_in, cell_of_row _ _ (2 + i) _ _ _ h3]
    rcases i with _ | _ | i
    · simpa using hu
    · simpa using hu
    · simp at hu
  · simp at hj

theorem lit_F (w : World) : Kd.F k44 (litW w) (fun k => w.heap.size ≤ k ∧ k < (litW w).heap.size) (some ⟨w.heap.size + 1 + 1 + 1, 0, none⟩) 2 litL := by
  obtain ⟨hb, h0, h1, h2, h3⟩ := lit_below w
  have hs := blk_lt h3
  intro W' hk
  have q : ∀ k, w.heap.size ≤ k → k < (litW w).heap.size → W'.heap[k]? = (litW w).heap[k]? := fun k h1 h2 => hk k ⟨h1, h2⟩ h2
  exact lit_C ((q _ (Nat.le_refl _) (blk_lt h0)).trans h0) ((q _ (by omega) (blk_lt h1)).trans h1) ((q _ (by omega) (blk_lt h2)).trans h2) ((q _ (by omega) hs).trans h3)

theorem mv2_F (w : World) (a b : Int) : Kd.F k104 (w.alloc (.cells #[.int .i64 a, .slice none 0 0, .int .i64 b, .slice none 0 0] 104)) (fun k => k = w.heap.size) (some ⟨w.heap.size, 0, none⟩) 2 [⟨a, []⟩, ⟨b, []⟩] := by
  have h := blk_new w (.cells #[.int .i64 a, .slice none 0 0, .int .i64 b, .slice none 0 0] 104)
  intro W' hk
  have h3 := (hk _ rfl (blk_lt h)).trans h
  refine ⟨rfl, by decide, fun _ => ⟨_, rfl, fun j p hj => ?_⟩⟩
  rcases j with _ | _ | j
  · simp only [List.getElem?_cons_zero, Option.some.injEq] at hj
    subst hj
    refine ⟨_, rfl, k104_mk W' ⟨a, []⟩ (A1 := none) (c1 := 0) (by simp) (Kd.F_now (Kd.F_nil _ _ (fun _ => True))), fun i u hu => ?_⟩
    have e : 0 * k104.sz + i = i := by rw [Nat.zero_mul, Nat.zero_add]
    rw [e, add_in, cell_of_row _ _ i _ _ _ h3]
    rcases i with _ | _ | i
    · simpa using hu
    · simpa using hu
    · simp at hu
  · simp only [List.getElem?_cons_succ, List.getElem?_cons_zero, Option.some.injEq] at hj
    subst hj
    refine ⟨_, rfl, k104_mk W' ⟨b, []⟩ (A1 := none) (c1 := 0) (by simp) (Kd.F_now (Kd.F_nil _ _ (fun _ => True))), fun i u hu => ?_⟩
    have e : (0 + 1) * k104.sz + i = 2 + i := by show (0 + 1) * 2 + i = 2 + i; omega
    rw [e, add_in, cell_of_row _ _ (2 + i) _ _ _ h3]
    rcases i with _ | _ | i
    · simpa using hu
    · simpa using hu
    · simp at hu
  · simp at hj

theorem mv1_F (w : World) (a : Int) : Kd.F k104 (w.alloc (.cells #[.int .i64 a, .slice none 0 0] 104)) (fun k => k = w.heap.size) (some ⟨w.heap.size, 0, none⟩) 1 [⟨a, []⟩] := by
  have h := blk_new w (.cells #[.int .i64 a, .slice none 0 0] 104)
  intro W' hk
  have h3 := (hk _ rfl (blk_lt h)).trans h
  refine ⟨rfl, by decide, fun _ => ⟨_, rfl, fun j p hj => ?_⟩⟩
  rcases j with _ | j
  · simp only [List.getElem?_cons_zero, Option.some.injEq] at hj
    subst hj
    refine ⟨_, rfl, k104_mk W' ⟨a, []⟩ (A1 := none) (c1 := 0) (by simp) (Kd.F_now (Kd.F_nil _ _ (fun _ => True))), fun i u hu => ?_⟩
    have e : 0 * k104.sz + i = i := by rw [Nat.zero_mul, Nat.zero_add]
    rw [e, add_in, cell_of_row _ _ i _ _ _ h3]
    rcases i with _ | _ | i
    · simpa using hu
    · simpa using hu
    · simp at hu
  · simp at hj

end Go.Proofs.YtdkkkikcigjlhaaGreatDoor.Md

namespace Go.Proofs.YtdkkkikcigjlhaaGreatDoor.Md
open Go.RowKit Go.Proofs.YtdkkkikcigjlhaaGreatDoor.Con Go.Proofs.YtdkkkikcigjlhaaGreatDoor.Run Go.Proofs.YtdkkkikcigjlhaaGreatDoorW.PrintWords Go.Proofs.YtdkkkikcigjlhaaGreatDoorW.PrintMore Go.Proofs.YtdkkkikcigjlhaaGreatDoor.Cmp Go.Sort Go.RwLone

def inr (f : List Int → List Int → Int) (st lim : Option (List Int)) (x : Node) : Bool := over f st x.key && under f lim x.key
def rangeL (f : List Int → List Int → Int) (st lim : Option (List Int)) (ns : List Node) : List KV := (ns.filter (inr f st lim)).map fun x => (x.key, x.val)

def Pl (f : List Int → List Int → Int) (st lim : Option (List Int)) (ns : List Node) (i : Int) (fw : Bool) : Option Node → Prop
  | some x => ∃ A B, ns = A ++ x :: B ∧ inr f st lim x = true ∧ i = ((A.filter (inr f st lim)).length : Int)
  | none => (fw = true ∧ i = ((rangeL f st lim ns).length : Int)) ∨ (fw = false ∧ i = -1)

section
variable {f : List Int → List Int → Int} {st lim : Option (List Int)} {ns P R A B : List Node} {x : Node} {i : Int} {fw : Bool} {o : Option Node}

theorem range_app (A B : List Node) : rangeL f st lim (A ++ B) = rangeL f st lim A ++ rangeL f st lim B := by simp [rangeL]
theorem range_len (A : List Node) : (rangeL f st lim A).length = (A.filter (inr f st lim)).length := by simp [rangeL]
theorem range_in (h : inr f st lim x = true) : rangeL f st lim (A ++ x :: B) = rangeL f st lim A ++ (x.key, x.val) :: rangeL f st lim B := by simp [rangeL, h]
theorem range_none (h : ∀ x ∈ A, inr f st lim x = false) : rangeL f st lim A = [] := by
  unfold rangeL
  rw [List.filter_eq_nil_iff.2 (fun x hx => by rw [h x hx]; simp)]
  rfl

theorem Pl.on (h : Pl f st lim ns i fw o) : onL (rangeL f st lim ns) i = o.isSome ∧ keyL (rangeL f st lim ns) i = (match o with | some x => x.key | none => []) ∧ valL (rangeL f st lim ns) i = (match o with | some x => x.val | none => []) := by
  cases o with
  | none =>
    have e : onL (rangeL f st lim ns) i = false := by
      unfold onL
      rcases h with ⟨_, rfl⟩ | ⟨_, rfl⟩ <;> simp
    exact ⟨e, by unfold keyL; rw [e]; rfl, by unfold valL; rw [e]; rfl⟩
  | some x =>
    obtain ⟨A, B, rfl, hx, rfl⟩ := h
    have hl := range_in (f := f) (st := st) (lim := lim) (A := A) (B := B) hx
    have e : onL (rangeL f st lim (A ++ x :: B)) ((A.filter (inr f st lim)).length : Int) = true := by
      unfold onL
      rw [hl]
      simp [range_len]
      omega
    have g : (rangeL f st lim (A ++ x :: B)).getD (A.filter (inr f st lim)).length ([], []) = (x.key, x.val) := by
      rw [hl, ← range_len]
      simp [List.getD_eq_getElem?_getD]
    refine ⟨e, ?_, ?_⟩
    · unfold keyL
      rw [e, if_pos rfl, Int.toNat_natCast, g]
    · unfold valL
      rw [e, if_pos rfl, Int.toNat_natCast, g]

theorem under_up (ho : Ord f) {a b : List Int} (h : f a b < 0) (hb : under f lim b = true) : under f lim a = true := by
  cases lim with
  | none => rfl
  | some l =>
    have hb : f b l < 0 := by simpa [under] using hb
    simp [under]
    exact ho.trans _ _ _ h hb
theorem over_up (ho : Ord f) {a b : List Int} (h : f a b < 0) (ha : over f st a = true) : over f st b = true := by
  cases st with
  | none => rfl
  | some l =>
    have ha : 0 ≤ f a l := by
      simp [over] at ha
      exact ha
    refine over_yes ?_
    rcases Int.lt_or_le (f b l) 0 with q | q
    · have := ho.trans _ _ _ h q
      omega
    · exact q

theorem sorted_mem (hs : Sorted f (A ++ x :: B)) : (∀ y ∈ A, f y.key x.key < 0) ∧ ∀ y ∈ B, f x.key y.key < 0 := by
  obtain ⟨_, h2, h3⟩ := List.pairwise_append.1 hs
  exact ⟨fun y hy => h3 y hy x List.mem_cons_self, fun y hy => (List.pairwise_cons.1 h2).1 y hy⟩

theorem head_pl (ho : Ord f) (hs : Sorted f ns) (e : ns = P ++ R) (hR : ∀ x ∈ R, over f st x.key = true) (hi : i = ((P.filter (inr f st lim)).length : Int)) : Pl f st lim ns i true (R.head?.filter fun x => under f lim x.key) := by
  cases R with
  | nil =>
    refine .inl ⟨rfl, ?_⟩
    rw [hi, e, List.append_nil, range_len]
  | cons y R' =>
    show Pl f st lim ns i true ((some y).filter _)
    rw [Option.filter_some]
    by_cases hu : under f lim y.key = true
    · rw [if_pos hu]
      exact ⟨P, R', e, by unfold inr; rw [hR y List.mem_cons_self, hu]; rfl, hi⟩
    · rw [if_neg hu]
      refine .inl ⟨rfl, ?_⟩
      have hn : rangeL f st lim (y :: R') = [] := range_none fun z hz => by
        have : under f lim z.key = false := by
          rcases List.mem_cons.1 hz with rfl | hz
          · simpa using hu
          · rw [e] at hs
            cases q : under f lim z.key with
            | false => rfl
            | true => exact absurd (under_up ho ((sorted_mem hs).2 z hz) q) hu
        unfold inr
        rw [this, Bool.and_false]
      rw [hi, e, range_app, hn, List.append_nil, range_len]

theorem last_pl (ho : Ord f) (hs : Sorted f ns) (e : ns = P ++ R) (hP : ∀ x ∈ P, under f lim x.key = true) (hi : i = ((P.filter (inr f st lim)).length : Int) - 1) : Pl f st lim ns i false (P.getLast?.filter fun x => over f st x.key) := by
  rcases List.eq_nil_or_concat P with rfl | ⟨A, y, rfl⟩
  · exact .inr ⟨rfl, by rw [hi]; rfl⟩
  · have el : (A ++ [y]).getLast? = some y := by simp
    rw [List.concat_eq_append] at e hP hi ⊢
    rw [el, Option.filter_some]
    by_cases hu : over f st y.key = true
    · rw [if_pos hu]
      have hy : inr f st lim y = true := by unfold inr; rw [hu, hP y (by simp)]; rfl
      refine ⟨A, R, by rw [e]; simp, hy, ?_⟩
      rw [hi, List.filter_append]
      simp [hy]
    · rw [if_neg hu]
      refine .inr ⟨rfl, ?_⟩
      have hn : (A ++ [y]).filter (inr f st lim) = [] := List.filter_eq_nil_iff.2 fun z hz => by
        have : over f st z.key = false := by
          rcases List.mem_append.1 hz with hz | hz
          · cases q : over f st z.key with
            | false => rfl
            | true =>
              rw [e, List.append_assoc] at hs
              exact absurd (over_up ho ((sorted_mem (A := A) (x := y) (B := R) (by simpa using hs)).1 z hz) q) hu
          · rw [List.mem_singleton.1 hz]
            simpa using hu
        unfold inr
        rw [this]
        simp
      rw [hi, hn]
      rfl

theorem findL_app (key : List Int) : ∀ (A B : List KV), (∀ x ∈ A, f x.1 key < 0) → (∀ x ∈ B, 0 ≤ f x.1 key) → findL f key (A ++ B) = A.length := by
  intro A
  induction A with
  | nil =>
    intro B _ hB
    cases B with
    | nil => rfl
    | cons x r =>
      have := hB x List.mem_cons_self
      simp only [List.nil_append, findL, List.length_nil]
      rw [if_neg (by omega)]
  | cons x r ih =>
    intro B hA hB
    simp only [List.cons_append, findL, List.length_cons]
    rw [if_pos (hA x List.mem_cons_self), ih B (fun y hy => hA y (List.mem_cons_of_mem _ hy)) hB]

theorem seek_place (key : List Int) (e : ns = P ++ R) (hP : ∀ x ∈ P, inr f st lim x = true → f x.key key < 0) (hR : ∀ x ∈ R, 0 ≤ f x.key key) : findL f key (rangeL f st lim ns) = (P.filter (inr f st lim)).length := by
  rw [e, range_app, findL_app, range_len]
  · intro x hx
    obtain ⟨y, hy, rfl⟩ := List.mem_map.1 hx
    exact hP y (List.mem_filter.1 hy).1 (List.mem_filter.1 hy).2
  · intro x hx
    obtain ⟨y, hy, rfl⟩ := List.mem_map.1 hx
    exact hR y (List.mem_filter.1 hy).1
end

end Go.Proofs.YtdkkkikcigjlhaaGreatDoor.Md

namespace Go.Proofs.YtdkkkikcigjlhaaGreatDoor.Md
open Go.RowKit Go.Proofs.YtdkkkikcigjlhaaGreatDoor.Con Go.Proofs.YtdkkkikcigjlhaaGreatDoor.Run Go.Proofs.YtdkkkikcigjlhaaGreatDoorW.PrintWords Go.Proofs.YtdkkkikcigjlhaaGreatDoorW.PrintMore Go.Proofs.YtdkkkikcigjlhaaGreatDoor.Cmp Go.Sort Go.RwLone

theorem Rg2.mono {w : World} {ok ok' : Nat → Prop} {sv : Value} {st lim : Option (List Int)} (h : Rg2 w ok sv st lim) (hm : ∀ k, ok k → ok' k) : Rg2 w ok' sv st lim := by
  rcases h with h | ⟨s, Sb, Lb, h1, h2, h3, h4, h5, h6, h7, h8⟩
  · exact .inl h
  · exact .inr ⟨s, Sb, Lb, h1, hm _ h2, h3, h4, h5, h6, fun l a c e1 e2 => hm _ (h7 l a c e1 e2), fun l a c e1 e2 => hm _ (h8 l a c e1 e2)⟩

structure DbAt (base p : Nat) (V : Value) (f : List Int → List Int → Int) (ns : List Node) (kb nb it : Nat) (sv : Value) (st lim : Option (List Int)) (lo hi : Nat) (w : World) (i : Int) (D : MemD) (fw : Bool) (o : Option Node) : Prop where
  M : MIt w D base p V f ns kb nb it sv st lim fw o
  pl : Pl f st lim ns i fw o
  own : ∀ k, D.own p k → lo ≤ k ∧ k < hi
  at_ : lo ≤ it ∧ it < hi
  rg : Rg2 w (fun k => D.apart p it k ∧ (lo ≤ k ∧ k < hi)) sv st lim
  top : hi ≤ w.heap.size

def DbSt (base p : Nat) (V : Value) (f : List Int → List Int → Int) (ns : List Node) (kb nb it : Nat) (sv : Value) (st lim : Option (List Int)) (lo hi : Nat) (w : World) (i : Int) (F : Nat → Prop) : Prop :=
  F = (fun k => lo ≤ k ∧ k < hi) ∧ ∃ D fw o, DbAt base p V f ns kb nb it sv st lim lo hi w i D fw o

section
variable {base p kb nb it lo hi : Nat} {V sv : Value} {f : List Int → List Int → Int} {ns : List Node} {st lim : Option (List Int)} {w w1 : World} {i j : Int} {D : MemD} {fw fw' : Bool} {o o' : Option Node}

theorem DbAt.keep (h : DbAt base p V f ns kb nb it sv st lim lo hi w i D fw o) (hk : ∀ k, lo ≤ k ∧ k < hi → w1.heap[k]? = w.heap[k]?) (hs : w.heap.size ≤ w1.heap.size) : DbAt base p V f ns kb nb it sv st lim lo hi w1 i D fw o := by
  have hr := h.rg.keep (w1 := w1) (fun k ho _ => hk k ho.2)
  obtain ⟨ics, hb, hi'⟩ := h.M.blk
  exact ⟨⟨h.M.M.keep (fun k ho => hk k (h.own k ho)), ⟨ics, (hk it h.at_).trans hb, hi'⟩, h.M.on, hr.mono (fun k q => q.1), h.M.ne⟩, h.pl, h.own, h.at_, hr, Nat.le_trans h.top hs⟩

theorem DbAt.moved (h : DbAt base p V f ns kb nb it sv st lim lo hi w i D fw o) {cs : Array Value} (hm : MIt w1 { D with cs := cs } base p V f ns kb nb it sv st lim fw' o') (hf : Fr w w1 (fun k => k = it ∨ k = p)) (hp : Pl f st lim ns j fw' o') :
    Mv (DbSt base p V f ns kb nb it sv st lim lo hi) w (fun k => lo ≤ k ∧ k < hi) j w1 := by
  refine ⟨_, ⟨rfl, { D with cs := cs }, fw', o', hm, hp, h.own, h.at_, ?_, Nat.le_trans h.top hf.size⟩, hf.mono (fun k hk => ?_), fun k hk => .inl hk⟩
  · exact h.rg.keep (fun k hk hlt => hf.block k hlt (fun q => by
      rcases q with rfl | rfl
      · exact hk.1.1 rfl
      · exact hk.1.2 (.inr (.inl rfl))))
  · rcases hk with rfl | rfl
    · exact h.at_
    · exact h.own _ (.inr (.inl rfl))
end

set_option maxHeartbeats 1600000 in
theorem DbValid_calls {w : World} {it p : Nat} {ics : Array Value} {sv : Value} {fw : Bool} {kv : List Int} {Kx : Option Addr} {o : Option Node} (hb : Blk w it ics) (hi : ItAt kv Kx ics p sv fw o) (ha : ∀ x, o = some x → 16 ≤ x.a) :
    Calls Tryz.prog 172 #[.pointer (some ⟨it, 0, none⟩)] w fun e w' => e = .returned (.bool o.isSome) ∧ w = w' := by
  obtain ⟨A1, n1, c1, B1, m1, d1, hs⟩ := hi.is
  have e4 := hb.cell hs.c4
  clear hb hi hs
  cases o with
  | none =>
    go_enter Tryz.func172, Tryz.ntmps172
    go_wp2
    go_ret
    exact ⟨rfl, rfl⟩
  | some x =>
    have z := nz (ha x rfl)
    replace e4 : w.cell? ⟨it, 4, none⟩ = some (.int .i64 (x.a : Int)) := e4
    clear ha
    generalize x.a = a at *
    go_enter Tryz.func172, Tryz.ntmps172
    go_wp2
    go_ret
    exact ⟨rfl, rfl⟩

set_option maxHeartbeats 1600000 in
theorem DbError_calls {w : World} {it : Nat} (h : w.cell? ⟨it, 8, none⟩ = some .nilIface) :
    Calls Tryz.prog 163 #[.pointer (some ⟨it, 0, none⟩)] w fun e w' => e = .returned .nilIface ∧ w = w' := by
  go_enter Tryz.func163, Tryz.ntmps163
  go_wp2
  go_ret
  exact ⟨rfl, rfl⟩

set_option maxHeartbeats 1600000 in
theorem DbKey_calls {w : World} {it n c : Nat} {A : Option Addr} (h : w.cell? ⟨it, 6, none⟩ = some (.slice A n c)) :
    Calls Tryz.prog 165 #[.pointer (some ⟨it, 0, none⟩)] w fun e w' => e = .returned (.slice A n c) ∧ w = w' := by
  go_enter Tryz.func165, Tryz.ntmps165
  go_wp2
  go_ret
  exact ⟨rfl, rfl⟩

set_option maxHeartbeats 1600000 in
theorem DbValue_calls {w : World} {it n c : Nat} {A : Option Addr} (h : w.cell? ⟨it, 7, none⟩ = some (.slice A n c)) :
    Calls Tryz.prog 173 #[.pointer (some ⟨it, 0, none⟩)] w fun e w' => e = .returned (.slice A n c) ∧ w = w' := by
  go_enter Tryz.func173, Tryz.ntmps173
  go_wp2
  go_ret
  exact ⟨rfl, rfl⟩

end Go.Proofs.YtdkkkikcigjlhaaGreatDoor.Md
