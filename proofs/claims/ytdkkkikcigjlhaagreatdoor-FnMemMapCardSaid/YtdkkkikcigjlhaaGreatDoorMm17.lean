/- The law FnMemMap's small functions, as printed: what they tell. The reference's cursor: a drop. The law FnMemMap: the reference's list behind operations, pure. impl's MemScript: what the end of a round needs. impl's MemScript: a round. -/
import Derived.Test.YtdkkkikcigjlhaaGreatDoorMm12
import Derived.Test.YtdkkkikcigjlhaaGreatDoorMm16
import Derived.Test.YtdkkkikcigjlhaaGreatDoorMm07
import Derived.Deep.RegionLaw
import Derived.Test.YtdkkkikcigjlhaaGreatDoorMm13
import Derived.BigRegion
set_option linter.unusedVariables false
set_option linter.unusedSimpArgs false
namespace Go.Proofs.YtdkkkikcigjlhaaGreatDoor.Md
open Go.RowKit Go.Proofs.YtdkkkikcigjlhaaGreatDoor.Con Go.Proofs.YtdkkkikcigjlhaaGreatDoor.Run Go.Proofs.YtdkkkikcigjlhaaGreatDoorW.PrintWords Go.Proofs.YtdkkkikcigjlhaaGreatDoorW.PrintMore Go.Proofs.YtdkkkikcigjlhaaGreatDoor.Cmp Go.Sort Go.RwLone Go.Proofs.YtdkkkikcigjlhaaGreatDoor.PFnMemMap

theorem s_rd77 (l : List S77) (i : Nat) (h : i < l.length) : rd_T77 l (i : Int) = l.getD i (⟨0, [], []⟩ : S77) := by
  simp [rd_T77, List.getD_eq_getElem?_getD, h]

theorem fits25_l0 (l : List S77) (hl : l.length ≤ 2147483647) (d : Nat) : ∀ i : Nat, l.length - i = d → i ≤ l.length → ∀ k, d + 1 ≤ k → ∃ b, laws_zzFits25.l0 k l (l.length : Int) (i : Int) = some b ∧ (b = true → ∀ x ∈ l.drop i, x.f1.length ≤ 2147483647 ∧ x.f2.length ≤ 2147483647) := by
  induction d with
  | zero =>
    intro i h1 h2 k hk
    obtain ⟨k, rfl⟩ : ∃ q, k = q + 1 := ⟨k - 1, by omega⟩
    refine ⟨true, by rw [laws_zzFits25.l0, if_neg (by omega)], fun _ x hx => ?_⟩
    rw [List.drop_of_length_le (by omega)] at hx
    cases hx
  | succ d ih =>
    intro i h1 h2 k hk
    obtain ⟨k, rfl⟩ : ∃ q, k = q + 1 := ⟨k - 1, by omega⟩
    have hi : i < l.length := by omega
    rw [laws_zzFits25.l0, if_pos (by omega), if_pos (by omega), if_pos (by omega), s_rd77 l i hi, s_drop hi (⟨0, [], []⟩ : S77), s_up hi (by omega)]
    unfold laws_zzFits26.f
    by_cases q1 : (((l.getD i (⟨0, [], []⟩ : S77)).f1.length : Int)) > 2147483647
    · rw [if_pos q1]
      exact ⟨false, rfl, fun h => by cases h⟩
    · rw [if_neg q1]
      by_cases q2 : (((l.getD i (⟨0, [], []⟩ : S77)).f2.length : Int)) > 2147483647
      · rw [if_pos q2]
        exact ⟨false, rfl, fun h => by cases h⟩
      · rw [if_neg q2]
        obtain ⟨b, hb1, hb2⟩ := ih (i + 1) (by omega) (by omega) k (by omega)
        refine ⟨b, by simp only [Option.bind_some, if_true]; exact hb1, fun h x hx => ?_⟩
        rcases List.mem_cons.1 hx with rfl | hx
        · omega
        · exact hb2 h x hx

theorem fits25_calls {w : World} {A : Option Addr} {c : Nat} {l : List S77} (hA : Kd.C k77 w A l.length l) (hc : l.length ≤ c) :
    Calls Tryz.prog 38 #[.slice A l.length c] w fun e w' => FitTold (l.length ≤ 2147483647 ∧ ∀ x ∈ l, x.f1.length ≤ 2147483647 ∧ x.f2.length ≤ 2147483647) w e w' := by
  obtain ⟨k, b, h, hb⟩ : ∃ k b, laws_zzFits25.f k l = some b ∧ (b = true → l.length ≤ 2147483647 ∧ ∀ x ∈ l, x.f1.length ≤ 2147483647 ∧ x.f2.length ≤ 2147483647) := by
    by_cases q : (l.length : Int) > 2147483647
    · exact ⟨0, false, by unfold laws_zzFits25.f; rw [if_pos q], fun h => by cases h⟩
    · obtain ⟨b, h1, h2⟩ := fits25_l0 l (by omega) l.length 0 (by omega) (by omega) (l.length + 1) (Nat.le_refl _)
      exact ⟨l.length + 1, b, by unfold laws_zzFits25.f; rw [if_neg q]; exact h1, fun h => ⟨by omega, fun x hx => h2 h x (by rw [List.drop_zero]; exact hx)⟩⟩
  refine (laws_zzFits25.calls k A c l b w hA hc h).mono ?_
  rintro e w' ⟨rfl, hw⟩
  exact ⟨b, rfl, Lib.hid hb, hw⟩

theorem wtL_app (a b : List KV) : wtL (a ++ b) = wtL a + wtL b := by simp [wtL]
theorem weight_l0 (l : List S36) (hl : l.length ≤ 4294967296) (hw : wtL (kvC l) ≤ 4294967296) (d : Nat) : ∀ i : Nat, l.length - i = d → i ≤ l.length → ∀ k, d + 1 ≤ k → laws_weight.l0 k l (wtL (kvC (l.take i)) : Int) (i : Int) = some (wtL (kvC l) : Int) := by
  induction d with
  | zero =>
    intro i h1 h2 k hk
    obtain ⟨k, rfl⟩ : ∃ q, k = q + 1 := ⟨k - 1, by omega⟩
    rw [laws_weight.l0, if_neg (by omega), List.take_of_length_le (by omega)]
  | succ d ih =>
    intro i h1 h2 k hk
    obtain ⟨k, rfl⟩ : ∃ q, k = q + 1 := ⟨k - 1, by omega⟩
    have hi : i < l.length := by omega
    have e : l.take (i + 1) = l.take i ++ [l.getD i (⟨[], []⟩ : S36)] := sp_take hi _
    have e2 : wtL (kvC (l.take (i + 1))) = wtL (kvC (l.take i)) + ((l.getD i (⟨[], []⟩ : S36)).f0.length + (l.getD i (⟨[], []⟩ : S36)).f1.length) := by
      rw [e, kvC_app, wtL_app]
      have e5 : ∀ y : S36, wtL (kvC [y]) = y.f0.length + y.f1.length := fun y => by unfold wtL kvC; simp
      rw [e5]
    have e3 : wtL (kvC (l.take (i + 1))) ≤ wtL (kvC l) := by
      have : wtL (kvC (l.take (i + 1) ++ l.drop (i + 1))) = wtL (kvC l) := by rw [List.take_append_drop]
      rw [kvC_app, wtL_app] at this
      omega
    rw [laws_weight.l0, if_pos (by omega), if_pos (by omega), s_rd36 l i hi, s_up hi hl]
    have hsum : wrap64 (wrap64 ((wtL (kvC (l.take i)) : Int) + ((l.getD i (⟨[], []⟩ : S36)).f0.length : Int)) + ((l.getD i (⟨[], []⟩ : S36)).f1.length : Int)) = ((wtL (kvC (l.take (i + 1))) : Nat) : Int) := by
      rw [e2] at e3 ⊢
      generalize wtL (kvC (l.take i)) = a at *
      generalize (l.getD i (⟨[], []⟩ : S36)).f0.length = b at *
      generalize (l.getD i (⟨[], []⟩ : S36)).f1.length = c at *
      generalize wtL (kvC l) = m at *
      clear e e2 ih
      have i1 : wrap64 ((a : Int) + (b : Int)) = (a : Int) + (b : Int) := wz (by omega) (by omega)
      rw [i1, wz (by omega) (by omega)]
      omega
    rw [hsum]
    exact ih (i + 1) (by omega) (by omega) k (by omega)

theorem weight_calls {w : World} {A : Option Addr} {n c : Nat} {l : List S36} (hA : Kd.C k36 w A n l) (hn : l.length = n) (hc : n ≤ c) (hl : n ≤ 4294967296) (hw : wtL (kvC l) ≤ 4294967296) :
    Calls Tryz.prog 42 #[.slice A n c] w fun e w' => e = .returned (.int .i64 (wtL (kvC l) : Int)) ∧ Below w.heap.size w w' := by
  subst hn
  have h := weight_l0 l hl hw l.length 0 (by omega) (by omega) _ (Nat.le_refl _)
  refine (laws_weight.calls (l.length + 1) A c l _ w hA hc h).mono ?_
  rintro e w' ⟨rfl, hw⟩
  exact ⟨rfl, hw.below⟩

def dropC (f : List Int → List Int → Int) (key : List Int) (l : List S36) : List S36 := if hitL f key (kvC l) = true then l.take (findL f key (kvC l)) ++ l.drop (findL f key (kvC l) + 1) else l

def CdTold (ok : Nat → Prop) (r : List S36) (hit : Bool) (w : World) (e : Ending) (w' : World) : Prop :=
  ∃ A c, e = .returned (.tuple #[.slice A r.length c, .bool hit]) ∧ r.length ≤ c ∧ Kd.F k36 w' (fun k => ok k ∨ w.heap.size ≤ k) A r.length r ∧ Below w.heap.size w w'

set_option maxHeartbeats 6400000 in
set_option maxRecDepth 100000 in
theorem cdrop_calls {w : World} {ok : Nat → Prop} {A B : Option Addr} {n c cb : Nat} {l : List S36} {key : List Int} (o : Int) (hA : Kd.F k36 w ok A n l) (hn : l.length = n) (hc : n ≤ c) (hB : Kd.F (Kd.int .u8) w ok B key.length key) (hcb : key.length ≤ cb)
    (hk : key.length ≤ 4294967296) (hx : ∀ x ∈ l, x.f0.length ≤ 4294967296) (hl : n ≤ 4294967296) :
    Calls Tryz.prog 41 #[.int .i64 o, .slice A n c, .slice B key.length cb] w fun e w' => CdTold ok (dropC (cmpO o) key l) (hitL (cmpO o) key (kvC l)) w e w' := by
  have HP := Lib.hid (And.intro hA (And.intro hn (And.intro hc (And.intro hB hcb))))
  have HFI := Lib.hid (find_calls (c := c) (d := cb) o (Kd.F_now (show Kd.F k36 w ok A l.length l by rw [hn]; exact hA)) (by rw [hn]; exact hc) (Kd.F_now hB) hcb hk hx (by rw [hn]; exact hl))
  rw [hn] at HFI
  have hple := findL_le (cmpO o) key (kvC l)
  rw [kvC_len, hn] at hple
  have HHIT := Lib.hid (hit_at (f := cmpO o) (key := key) (l := l))
  have HRES : Hid (dropC (cmpO o) key l = if hitL (cmpO o) key (kvC l) = true then l.take (findL (cmpO o) key (kvC l)) ++ l.drop (findL (cmpO o) key (kvC l) + 1) else l) := Lib.hid rfl
  generalize findL (cmpO o) key (kvC l) = p at *
  generalize hitL (cmpO o) key (kvC l) = ht at *
  have HPL := Lib.hid hple
  have HL := Lib.hid hl
  have HLT := Lib.hid (show (l.take p).length = p by rw [List.length_take, hn, Nat.min_eq_left hple])
  obtain ⟨s2, hF2⟩ := cutT hA hn hc p hple
  have HF2 := Lib.hid hF2
  by_cases hlt : p < n
  · obtain ⟨x, hxx⟩ : ∃ x, l.getD p (⟨[], []⟩ : S36) = x := ⟨_, rfl⟩
    obtain ⟨ad, K, kc, V, vc, hAA, r0, r1, hKF, -, hkc, -⟩ := cp_at hA hlt hxx
    subst hAA
    obtain ⟨A3, c3, s3, hF3⟩ := cutF hA hn hc ((p : Int) + 1) (p + 1) (by omega) (by omega) hlt
    have HF3 := Lib.hid hF3
    have HK := Lib.hid (And.intro hKF hkc)
    have HR0 := Lib.hid r0
    have hht := HHIT.out
    rw [hn, decide_eq_true hlt, Bool.true_and, hxx] at hht
    have HHT := Lib.hid hht
    have z0 : ((p : Int) == (n : Int)) = false := by rw [beq_eq_false_iff_ne]; omega
    have z1 : (p : Int) < (n : Int) := by omega
    have w0 : wrap64 ((p : Int) + 1) = (p : Int) + 1 := by unfold wrap64; omega
    have w0' : IntKind.i64.wrap ((p : Int) + 1) = (p : Int) + 1 := by rw [IntKind.wrap_i64]; omega
    have HLTT := Lib.hid hlt
    clear hht hA hn hc hB hcb hk hx hl hF2 hple hKF hkc hF3 r0 r1
    have hsame : ∀ w1, Below w.heap.size w w1 → Hid (Calls Tryz.prog 20 #[.slice K x.f0.length kc, .slice B key.length cb] w1 fun e w' => e = .returned (.bool ht) ∧ Below w1.heap.size w1 w') := fun w1 hb => Lib.hid (by
      rw [HHT.out]
      exact same_calls (Kd.F_now (Kd.F_below HK.out.1 hb)) HK.out.2 (Kd.F_now (Kd.F_below HP.out.2.2.2.1 hb)) HP.out.2.2.2.2)
    cases ht with
    | false =>
      go_enter Tryz.func41, Tryz.ntmps41
      go_wp2_with (first
        | (go_at_call 35; (with_reducible refine HFI.out.mono ?_); rintro e w1 ⟨rfl, hb1⟩; have HB1 := Lib.hid hb1; have r0 := pw_cell_below hb1 HR0.out)
        | (go_at_call 20; (with_reducible refine (hsame _ hb1).out.mono ?_); rintro e w2 ⟨rfl, hb2⟩; have HB2 := Lib.hid (hb1.trans (hb2.mono hb1.size))))
      go_ret2
      have e1 : dropC (cmpO o) key l = l := by rw [HRES.out]; rfl
      refine ⟨some ad, c, ?_, ?_, ?_, HB2.out⟩
      · rw [e1, HP.out.2.1]; rfl
      · rw [e1, HP.out.2.1]; exact HP.out.2.2.1
      · rw [e1, HP.out.2.1]
        exact Kd.F_mono (Kd.F_below HP.out.1 HB2.out) (fun k hk => .inl hk)
    | true =>
      go_enter Tryz.func41, Tryz.ntmps41
      go_upto_region 4 with (first
        | (go_at_call 35; (with_reducible refine HFI.out.mono ?_); rintro e w1 ⟨rfl, hb1⟩; have HB1 := Lib.hid hb1; have r0 := pw_cell_below hb1 HR0.out)
        | (go_at_call 20; (with_reducible refine (hsame _ hb1).out.mono ?_); rintro e w2 ⟨rfl, hb2⟩; have HB2 := Lib.hid (hb1.trans (hb2.mono hb1.size))))
      have HBD := Lib.hid HB2.out.drew
      go_region_law (first
        | (refine Kd.N_append_rows_step k36 w.heap.size rfl (.tmp 32) (.tmp 36) 31 36 (.agg #[.slice none 0 0, .slice none 0 0]) 48 rfl Tryz.underlying31 info_CP rfl (by decide) (by decide) _ _ _ _ _ _ (fun k => ok k ∨ w.heap.size ≤ k) (fun k => ok k ∧ k < w.heap.size) rfl rfl hn5 (Kd.F_below (Kd.F_bound HF3.out) hb5) (rows_ok hn5) (fun k hk => .inr (by have := hb5.size; omega)) hb5 hb5.size (by have := HL.out; have := HPL.out; have := HLT.out; have := HLTT.out; simp only [List.nil_append]; omega) ?_; intro v7 w7 hn7 hb7 hg7 hat7)
        | (refine Kd.N_append_rows_step k36 w.heap.size rfl (.tmp 28) (.tmp 31) 31 36 (.agg #[.slice none 0 0, .slice none 0 0]) 48 rfl Tryz.underlying31 info_CP rfl (by decide) (by decide) _ _ _ _ _ _ (fun k => ok k ∨ w.heap.size ≤ k) (fun k => ok k ∧ k < w.heap.size) rfl rfl (N_empty k36 (blk_new _ _) HBD.out.size (.inr HBD.out.size)) (Kd.F_below (Kd.F_bound HF2.out) (below_alloc HBD.out _)) (rows_ok (N_empty k36 (blk_new _ _) HBD.out.size (.inr HBD.out.size))) (fun k hk => .inr (by have h1 := HB2.out.size; have h2 : (w2.alloc (.cells #[] 36)).heap.size ≤ k := hk; rw [World.size_alloc] at h2; omega)) (below_alloc HBD.out _) (Nat.le_trans HB2.out.size (show w2.heap.size ≤ (w2.alloc (.cells #[] 36)).heap.size by rw [World.size_alloc]; omega)) (by have := HL.out; have := HPL.out; simp only [List.length_nil]; omega) ?_; intro v5 w5 hn5 hb5 hg5 hat5))
      all_goals (
        rename_i K' hK'
        simp only [Exit.then]
        refine hK' _ _ ?_
        go_wp2
        go_ret2
        have e1 : dropC (cmpO o) key l = l.take p ++ l.drop (p + 1) := by rw [HRES.out]; rfl
        obtain ⟨A7, c7, rfl⟩ := Kd.N_slice hn7
        rw [e1]
        exact ⟨A7, c7, rfl, (Kd.N_reads' hn7).2.1, Kd.N_F hn7, hb7⟩)
  · have hht := HHIT.out
    rw [hn, decide_eq_false hlt, Bool.false_and] at hht
    subst hht
    have z0 : ((p : Int) == (n : Int)) = true := by rw [beq_iff_eq]; omega
    clear hA hn hc hB hcb hk hx hl hF2 hple
    go_enter Tryz.func41, Tryz.ntmps41
    go_wp2_with (go_at_call 35; (with_reducible refine HFI.out.mono ?_); rintro e w1 ⟨rfl, hb1⟩; have HB1 := Lib.hid hb1)
    go_ret2
    have e1 : dropC (cmpO o) key l = l := by rw [HRES.out]; rfl
    refine ⟨A, c, ?_, ?_, ?_, HB1.out⟩
    · rw [e1, HP.out.2.1]; rfl
    · rw [e1, HP.out.2.1]; exact HP.out.2.2.1
    · rw [e1, HP.out.2.1]
      exact Kd.F_mono (Kd.F_below HP.out.1 HB1.out) (fun k hk => .inl hk)

def stepC (f : List Int → List Int → Int) (L : List S36) (x : S77) : List S36 :=
  if x.f0 = 0 then putC f x.f1 x.f2 L else if x.f0 = 1 then dropC f x.f1 L else if x.f0 = 2 then L else if x.f0 = 3 then L else if x.f0 = 4 then L else if x.f0 = 5 then L else if x.f0 = 6 then L else []
def endC (f : List Int → List Int → Int) (l : List S77) : List S36 := l.foldl (stepC f) []
theorem endC_snoc (f : List Int → List Int → Int) (l : List S77) (x : S77) : endC f (l ++ [x]) = stepC f (endC f l) x := by
  unfold endC
  rw [List.foldl_append]
  rfl

theorem dropC_kv (f : List Int → List Int → Int) (key : List Int) (l : List S36) : kvC (dropC f key l) = dropL f key (kvC l) := by
  unfold dropC dropL
  split
  · rw [kvC_app, kvC_take, kvC_drop]
  · rfl

theorem stepC_kv {f : List Int → List Int → Int} (ho : Ord f) (L : List S36) (x : S77) : kvC (stepC f L x) = stepL f (kvC L) x := by
  unfold stepC stepL
  by_cases d0 : x.f0 = 0
  · rw [if_pos d0, if_pos d0, putC_kv ho]
  · rw [if_neg d0, if_neg d0]
    by_cases d1 : x.f0 = 1
    · rw [if_pos d1, if_pos d1, dropC_kv]
    · rw [if_neg d1, if_neg d1]
      (repeat' split) <;> rfl

theorem endC_kv {f : List Int → List Int → Int} (ho : Ord f) (l : List S77) : kvC (endC f l) = endM f l := by
  have : ∀ (l : List S77) (a : List S36) (b : List KV), kvC a = b → kvC (l.foldl (stepC f) a) = l.foldl (stepL f) b := by
    intro l
    induction l with
    | nil => intro a b h; exact h
    | cons x r ih => intro a b h; exact ih _ _ (by rw [stepC_kv ho, h])
  exact this l [] [] rfl

theorem wtL_put (f : List Int → List Int → Int) (key val : List Int) : ∀ L : List KV, wtL (putL f key val L) ≤ wtL L + (key.length + val.length) ∧ (putL f key val L).length ≤ L.length + 1 := by
  intro L
  induction L with
  | nil => simp [putL, wtL]
  | cons x r ih =>
    have e : wtL (x :: r) = x.1.length + x.2.length + wtL r := by simp [wtL]
    simp only [putL]
    split
    · have e2 : wtL (x :: putL f key val r) = x.1.length + x.2.length + wtL (putL f key val r) := by simp [wtL]
      rw [e, e2]
      simp only [List.length_cons]
      omega
    · split
      · have e2 : wtL ((key, val) :: r) = key.length + val.length + wtL r := by simp [wtL]
        rw [e, e2]
        simp only [List.length_cons]
        omega
      · have e2 : wtL ((key, val) :: x :: r) = key.length + val.length + wtL (x :: r) := by simp [wtL]
        rw [e2, e]
        simp only [List.length_cons]
        omega

theorem wtL_cut : ∀ (L : List KV) (p : Nat), wtL (L.take p) + wtL (L.drop (p + 1)) ≤ wtL L ∧ (L.take p).length + (L.drop (p + 1)).length ≤ L.length := by
  intro L
  induction L with
  | nil => intro p; simp [wtL]
  | cons x r ih =>
    intro p
    have e : wtL (x :: r) = x.1.length + x.2.length + wtL r := by simp [wtL]
    cases p with
    | zero =>
      rw [e]
      simp [wtL]
    | succ p =>
      have h := ih p
      have e2 : wtL (x :: r.take p) = x.1.length + x.2.length + wtL (r.take p) := by simp [wtL]
      rw [e]
      simp only [List.take_succ_cons, List.drop_succ_cons, List.length_cons]
      rw [e2]
      omega

theorem step_room (f : List Int → List Int → Int) (L : List KV) (x : S77) : wtL (stepL f L x) ≤ wtL L + (x.f1.length + x.f2.length) ∧ (stepL f L x).length ≤ L.length + 1 := by
  have h1 := wtL_put f x.f1 x.f2 L
  have h2 := wtL_cut L (findL f x.f1 L)
  have h3 : wtL (dropL f x.f1 L) ≤ wtL L ∧ (dropL f x.f1 L).length ≤ L.length := by
    unfold dropL
    split
    · rw [wtL_app, List.length_append]
      exact h2
    · exact ⟨Nat.le_refl _, Nat.le_refl _⟩
  unfold stepL
  by_cases d0 : x.f0 = 0
  · rw [if_pos d0]; exact h1
  · rw [if_neg d0]
    by_cases d1 : x.f0 = 1
    · rw [if_pos d1]; omega
    · rw [if_neg d1]
      (repeat' split) <;> first | omega | (refine ⟨?_, ?_⟩ <;> simp [wtL])

theorem end_room (f : List Int → List Int → Int) (l : List S77) : wtL (endM f l) ≤ sumO l ∧ (endM f l).length ≤ l.length := by
  have : ∀ (l : List S77) (L : List KV), wtL (l.foldl (stepL f) L) ≤ wtL L + sumO l ∧ (l.foldl (stepL f) L).length ≤ L.length + l.length := by
    intro l
    induction l with
    | nil => intro L; simp [sumO]
    | cons x r ih =>
      intro L
      have h := ih (stepL f L x)
      have h2 := step_room f L x
      have e : sumO (x :: r) = x.f1.length + x.f2.length + sumO r := by simp [sumO]
      simp only [List.foldl_cons, List.length_cons]
      rw [e]
      omega
  have h := this l []
  simpa [endM, wtL] using h

theorem mem_wtL (L : List KV) : ∀ x ∈ L, x.1.length + x.2.length ≤ wtL L := by
  induction L with
  | nil => intro x h; cases h
  | cons y r ih =>
    intro x h
    have e : wtL (y :: r) = y.1.length + y.2.length + wtL r := by simp [wtL]
    rw [e]
    rcases List.mem_cons.1 h with rfl | h
    · omega
    · have := ih x h; omega

theorem endC_room {f : List Int → List Int → Int} (ho : Ord f) (l : List S77) : (endC f l).length ≤ l.length ∧ wtL (kvC (endC f l)) ≤ sumO l ∧ ∀ x ∈ endC f l, x.f0.length ≤ sumO l ∧ x.f1.length ≤ sumO l := by
  have h := end_room f l
  have e := endC_kv ho l
  rw [← e] at h
  refine ⟨by have := h.2; rw [kvC_len] at this; exact this, h.1, fun x hx => ?_⟩
  have := mem_wtL (kvC (endC f l)) (x.f0, x.f1) (List.mem_map.2 ⟨x, hx, rfl⟩)
  simp only at this
  omega

theorem ans_at {w : World} {ok : Nat → Prop} {A : Option Addr} {n : Nat} {l : List S79} (h : Kd.F k79 w ok A n l) {j : Nat} (hj : j < n) {x : S79} (hx : l.getD j (⟨[], [], 0, false⟩ : S79) = x) :
    ∃ ad A0 c0 A1 c1, A = some ad ∧ w.cell? (ad.add (j * 4)) = some (.slice A0 x.f0.length c0) ∧ w.cell? ⟨(ad.add (j * 4)).block, (ad.add (j * 4)).off + 1, none⟩ = some (.slice A1 x.f1.length c1) ∧ w.cell? ⟨(ad.add (j * 4)).block, (ad.add (j * 4)).off + 2, none⟩ = some (.int .i64 x.f2) ∧ w.cell? ⟨(ad.add (j * 4)).block, (ad.add (j * 4)).off + 3, none⟩ = some (.bool x.f3) ∧ Kd.F (Kd.int .u8) w ok A0 x.f0.length x.f0 ∧ Kd.F (Kd.int .u8) w ok A1 x.f1.length x.f1 ∧ x.f0.length ≤ c0 ∧ x.f1.length ≤ c1 := by
  obtain ⟨ad, cs', rfl, hcl, hK, hcell, hokb⟩ := Kd.F_get h (⟨[], [], 0, false⟩ : S79) (j : Int) (Int.natCast_nonneg _) (by omega)
  obtain ⟨A0, c0, A1, c1, rfl, hl0, hF0, hl1, hF1⟩ := k79_openF hK
  have r0 := hcell 0 _ rfl
  have r1 := hcell 1 _ rfl
  have r2 := hcell 2 _ rfl
  have r3 := hcell 3 _ rfl
  rw [Int.toNat_natCast, hx] at r0 r1 r2 r3 hF0 hF1 hl0 hl1
  have e1 : j * k79.sz + 1 = j * 4 + 1 := rfl
  have e2 : j * k79.sz + 2 = j * 4 + 2 := rfl
  have e3 : j * k79.sz + 3 = j * 4 + 3 := rfl
  rw [e1, add_field ad (j * 4) 1 (by omega)] at r1
  rw [e2, add_field ad (j * 4) 2 (by omega)] at r2
  rw [e3, add_field ad (j * 4) 3 (by omega)] at r3
  exact ⟨ad, A0, c0, A1, c1, rfl, r0, r1, r2, r3, hF0, hF1, hl0, hl1⟩

theorem copyM_step {P : Program} {ops : Array Oper} {o : Oper} {a : Act} {Q : Exit → Act → World → Prop} {Kc : Act → World → Prop} {w W : World} {g : Nat}
    (hw : Region.wanted o (yielded ops a.tmps) = true) (s x : Operand) (t e : TypeId)
    (ho : o.op = .call { callee := .builtin .append, args := #[s, x], argTypes := #[t, t] })
    (ht : P.underlying t = some (.slice e)) (hinfo : (P.info? e).map (fun i => (i.zero, i.size, i.bytes)) = some (some (.int .u8 0), 1, 1))
    (ys : List Int) (A : Option Addr) (m c : Nat) (hs : a.eval s = .slice (some ⟨g, 0, none⟩) 0 0) (hx : a.eval x = .slice A m c)
    (hg : W.heap[g]? = some (.cells #[] e (0, 0))) (hgb : w.heap.size ≤ g) (HR : Kd.C (Kd.int .u8) w A m ys) (HB : Below w.heap.size w W) (hl : m ≤ 4294967296)
    (h : ∀ A1 c1 w1, w1.ownsRow w.heap.size e 1 (.slice A1 ys.length c1) ys.length (nums .u8 ys) → Below w.heap.size w w1 → W.grownBy w1 (some g) → ((Value.slice A1 ys.length c1).ownBlock = some g ∨ ∃ b, (Value.slice A1 ys.length c1).ownBlock = some b ∧ W.heap.size ≤ b) → Kc (a.put o.dst (.slice A1 ys.length c1)) w1) :
    if Region.wanted o (yielded ops a.tmps) = true then Oper.wp P o a W Kc Q else Kc (a.put o.dst undef) W := by
  refine append_row_step w.heap.size hw s x t e ho ht hinfo _ [] ys A m c hs hx (own_empty hg hgb) (Kd.C_below HR HB) HB HB.size (by simp; omega) ?_
  intro v1 w1 ho1 hb1 hg1 hat1
  rw [List.nil_append] at ho1
  obtain ⟨A1, c1, rfl⟩ := own_slice ho1
  exact h A1 c1 w1 ho1 hb1 hg1 hat1

theorem empty_keptM {W w1 : World} {g1 g2 : Nat} {cs : Array Value} {e : TypeId} (hg : W.grownBy w1 (some g1)) (h : W.heap[g2]? = some (.cells cs e (0, 0))) (hne : g2 ≠ g1) : w1.heap[g2]? = some (.cells cs e (0, 0)) :=
  (hg.block g2 (blk_lt h) (fun e => hne (by injection e))).trans h

theorem row_two {B : Nat} {w1 W2 w2 : World} {g1 n1 g2 : Nat} {v : Value} {l : List Int} {n : Nat} (h : w1.ownsRow B 5 1 v n (nums .u8 l)) (hat : v.ownBlock = some g1 ∨ ∃ b, v.ownBlock = some b ∧ n1 ≤ b) (hW : W2 = w1 ∨ ∃ o, W2 = w1.alloc o) (hg : W2.grownBy w2 (some g2)) (hne : ∀ b, B ≤ b → b < w1.heap.size → (b = g1 ∨ n1 ≤ b) → b ≠ g2) : w2.ownsRow B 5 1 v n (nums .u8 l) := by
  have e : ∀ b, b < w1.heap.size → W2.heap[b]? = w1.heap[b]? ∧ b < W2.heap.size := by
    intro b hb
    rcases hW with rfl | ⟨o, rfl⟩
    · exact ⟨rfl, hb⟩
    · exact ⟨(below_alloc (Below.refl w1.heap.size w1) o).block b hb, by simp; omega⟩
  refine own_move h (fun k hk => ?_)
  have hlt := own_lt h k hk
  have hge := own_base h k hk
  have hor : k = g1 ∨ n1 ≤ k := by
    rcases hat with q | ⟨b, q, hb⟩
    · rw [hk] at q; injection q with q; exact .inl q
    · rw [hk] at q; injection q with q; exact .inr (q ▸ hb)
  refine (hg.block k (e k hlt).2 ?_).trans (e k hlt).1
  intro e2
  injection e2 with e2
  exact hne k hge hlt hor e2

theorem wtL_get (L : List KV) : ∀ i, (L.getD i ([], [])).1.length + (L.getD i ([], [])).2.length ≤ wtL L := by
  induction L with
  | nil => intro i; simp [wtL]
  | cons x r ih =>
    intro i
    cases i with
    | zero => simp [wtL]
    | succ i =>
      have := ih i
      simp only [wtL, List.map_cons, List.sum_cons, List.getD_cons_succ] at *
      omega

theorem ans_room (f : List Int → List Int → Int) (L : List KV) (x : S77) : (ansL f L x).f0.length ≤ wtL L ∧ (ansL f L x).f1.length ≤ wtL L := by
  have h := wtL_get L (findL f x.f1 L)
  unfold ansL herL
  (repeat' split) <;> simp only [List.length_nil] <;> omega

theorem sc_room {base p : Nat} {V : Value} {f : List Int → List Int → Int} {l : List S77} {W : World} {j : Nat} {F : Nat → Prop} (h : ScSt base p V f l W (j : Int) F) : wtL (endM f (l.take j)) ≤ sumO (l.take j) := by
  obtain ⟨D, ns, rfl, hM, hkv⟩ := h
  rw [Int.toNat_natCast] at hM hkv
  rw [← hkv, wtL_weigh]
  exact hM.light

theorem sc_round {St : World → Int → (Nat → Prop) → Prop} (I : Hold St) {w w1 w2 : World} {F F' F2 q2 : Nat → Prop} {i j : Int} {v : Value} {xs : List S79} {A B : Option Addr} {c d n0 : Nat} {y : S79}
    (hm : MvS St w F w1 i (fun _ => False) F') (hn : Kd.N k79 79 w1 w.heap.size (fun k => w.heap.size ≤ k ∧ ¬ F' k) v xs)
    (ho1 : w2.ownsRow n0 5 1 (.slice A y.f0.length c) y.f0.length (nums .u8 y.f0)) (ho2 : w2.ownsRow n0 5 1 (.slice B y.f1.length d) y.f1.length (nums .u8 y.f1)) (hm2 : MvS St w1 F' w2 j q2 F2)
    (hq1 : ∀ g, (Value.slice A y.f0.length c).ownBlock = some g → q2 g) (hq2 : ∀ g, (Value.slice B y.f1.length d).ownBlock = some g → q2 g) (hq3 : ∀ g, q2 g → w1.heap.size ≤ g) :
    Kd.FK k79 w2 q2 y [.slice A y.f0.length c, .slice B y.f1.length d, .int .i64 y.f2, .bool y.f3] ∧ (∀ g, q2 g → (w.heap.size ≤ g ∧ ¬ F2 g) ∧ some g ≠ v.ownBlock) ∧ (∀ g, w2.heap.size ≤ g → w.heap.size ≤ g ∧ ¬ F2 g) ∧
      Kd.N k79 79 w2 w.heap.size (fun k => w.heap.size ≤ k ∧ ¬ F2 k) v xs ∧ w.heap.size ≤ w2.heap.size ∧ MvS St w F w2 j (fun _ => False) F2 := by
  have hs := hm.fr.size
  have hs2 := hm2.fr.size
  have hN := Kd.N_mono (Kd.N_step (Kd.N_bound hn) (fun k hk _ => hm2.fr.block k hk.2 hk.1.2)) (ok' := fun k => w.heap.size ≤ k ∧ ¬ F2 k) (fun k hk => ⟨hk.1.1, fun q => by
    rcases hm2.own k q with q1 | q1
    · exact hk.1.2 q1
    · have := hk.2
      omega⟩)
  refine ⟨k79_mkF w2 q2 y (own_cap ho1) (own_rowF ho1 hq1) (own_cap ho2) (own_rowF ho2 hq2), fun g hg => ⟨⟨Nat.le_trans hs (hq3 g hg), hm2.off g hg⟩, fun e => ?_⟩, fun g hg => ⟨by omega, fun q => by have := I.inside _ _ _ hm2.st _ q; omega⟩, hN, by omega, ?_⟩
  · have h1 := Kd.N_lt hn g e.symm
    have h2 := hq3 g hg
    omega
  · exact (hm.then_ hm2).more (fun k hk => hk.elim)

def ansC (a b : Value) (n : Int) (o : Bool) : Array Value := #[a, b, .int .i64 n, .bool o]
theorem info_Ans : (Tryz.prog.info? 79).map (fun i => (i.zero, i.size, i.bytes)) = some (some (.agg #[.slice none 0 0, .slice none 0 0, .int .i64 0, .bool false]), 4, 64) := by kernel_rfl

structure SwO (base p : Nat) (V : Value) (f : List Int → List Int → Int) (l : List S77) (wr : World) (F : Nat → Prop) (j : Nat) (x : S77) (er err : Value) (wc : World) : Prop where
  ex : ∃ F1, MvS (ScSt base p V f l) wr F wc ((j + 1 : Nat) : Int) (fun k => k = wr.heap.size ∨ k = wr.heap.size + 1) F1
  ans : ∃ A a B b, wc.heap[wr.heap.size + 1]? = some (.cells (ansC (.slice A (ansL f (endM f (l.take j)) x).f0.length a) (.slice B (ansL f (endM f (l.take j)) x).f1.length b) (ansL f (endM f (l.take j)) x).f2 false) 79 (0, 0)) ∧
    Kd.C (Kd.int .u8) wc A (ansL f (endM f (l.take j)) x).f0.length (ansL f (endM f (l.take j)) x).f0 ∧ Kd.C (Kd.int .u8) wc B (ansL f (endM f (l.take j)) x).f1.length (ansL f (endM f (l.take j)) x).f1
  err : err = if (ansL f (endM f (l.take j)) x).f3 = true then .nilIface else er

theorem SwO.plain {base p : Nat} {V : Value} {f : List Int → List Int → Int} {l : List S77} {wr : World} {F F1 : Nat → Prop} {j : Nat} {x : S77} {er err : Value} {wc : World} {n : Int} {b : Bool} (hy : ansL f (endM f (l.take j)) x = ⟨[], [], n, b⟩)
    (hm : MvS (ScSt base p V f l) wr F wc ((j + 1 : Nat) : Int) (fun k => k = wr.heap.size ∨ k = wr.heap.size + 1) F1) (hc : wc.heap[wr.heap.size + 1]? = some (.cells (ansC (.slice none 0 0) (.slice none 0 0) n false) 79 (0, 0))) (he : err = if b = true then .nilIface else er) : SwO base p V f l wr F j x er err wc :=
  ⟨⟨F1, hm⟩, ⟨none, 0, none, 0, by rw [hy]; exact hc, by rw [hy]; exact Kd.C_nil _ _, by rw [hy]; exact Kd.C_nil _ _⟩, by rw [hy]; exact he⟩

theorem mv_cell0 {St : World → Int → (Nat → Prop) → Prop} {w w' : World} {F : Nat → Prop} {i : Int} {u : Value} (h : Mv St w F i w') (h0 : ¬ F 0) (hE : w.cell? ⟨0, 0, none⟩ = some u) : w'.cell? ⟨0, 0, none⟩ = some u := by
  obtain ⟨F', h1, h2, h3⟩ := h
  have hlt : 0 < w.heap.size := by
    by_cases q : 0 < w.heap.size
    · exact q
    · have : w.heap[(0 : Nat)]? = none := Array.getElem?_eq_none (by omega)
      simp [World.cell?, this] at hE
  have := h2.block 0 hlt h0
  unfold World.cell? at hE ⊢
  simp only at hE ⊢
  rw [this]
  exact hE

structure AnT (base p : Nat) (V : Value) (f : List Int → List Int → Int) (l : List S77) (wr : World) (F : Nat → Prop) (j n0 : Nat) (y : S79) (wd : World) : Prop where
  ex : ∃ F1 A a B b, MvS (ScSt base p V f l) wr F wd ((j + 1 : Nat) : Int) (fun k => n0 ≤ k ∧ k < wd.heap.size) F1 ∧ wd.heap[wr.heap.size + 1]? = some (.cells (ansC (.slice A y.f0.length a) (.slice B y.f1.length b) y.f2 y.f3) 79 (0, 0)) ∧
    wd.ownsRow n0 5 1 (.slice A y.f0.length a) y.f0.length (nums .u8 y.f0) ∧ wd.ownsRow n0 5 1 (.slice B y.f1.length b) y.f1.length (nums .u8 y.f1)

theorem AnT.made {base p : Nat} {V : Value} {f : List Int → List Int → Int} {l : List S77} {wr wc w2 : World} {F F1 : Nat → Prop} {j : Nat} {y : S79} {A B Ag Bg : Option Addr} {a b ag bg : Nat}
    (hm : MvS (ScSt base p V f l) wr F wc ((j + 1 : Nat) : Int) (fun k => k = wr.heap.size ∨ k = wr.heap.size + 1) F1) (hb : Below wc.heap.size wc w2) (hc : wc.heap[wr.heap.size + 1]? = some (.cells (ansC (.slice Ag y.f0.length ag) (.slice Bg y.f1.length bg) y.f2 false) 79 (0, 0)))
    (h1 : w2.ownsRow wc.heap.size 5 1 (.slice A y.f0.length a) y.f0.length (nums .u8 y.f0)) (h2 : w2.ownsRow wc.heap.size 5 1 (.slice B y.f1.length b) y.f1.length (nums .u8 y.f1)) :
    AnT base p V f l wr F j wc.heap.size y (((w2.setCell ⟨wr.heap.size + 1, 0, none⟩ (.slice A y.f0.length a)).setCell ⟨wr.heap.size + 1, 1, none⟩ (.slice B y.f1.length b)).setCell ⟨wr.heap.size + 1, 3, none⟩ (.bool y.f3)) := by
  have hlt := blk_lt hc
  have hm2 := sc_hold.set (sc_hold.set (sc_hold.set (sc_hold.below hm hb) (a := ⟨wr.heap.size + 1, 0, none⟩) (.inr rfl) (.slice A y.f0.length a)) (a := ⟨wr.heap.size + 1, 1, none⟩) (.inr rfl) (.slice B y.f1.length b)) (a := ⟨wr.heap.size + 1, 3, none⟩) (.inr rfl) (.bool y.f3)
  have hin := sc_hold.inside _ _ _ hm.st
  have e1 : ∀ {v : Value} {n : Nat} {xs : List Value}, w2.ownsRow wc.heap.size 5 1 v n xs → some (wr.heap.size + 1) ≠ v.ownBlock := fun ho e => by have := own_base ho _ e.symm; omega
  refine ⟨F1, A, a, B, b, hm2.more (fun k hk => .inr ⟨Nat.le_trans hm.fr.size hk.1, hk.2, fun q => by have := hin k q; omega⟩), (blk_set (blk_set (blk_set ((hb.block _ hlt).trans hc) 0 _) 1 _) 3 _).trans rfl, ?_, ?_⟩
  · exact own_setCell (p := ⟨wr.heap.size + 1, 3, none⟩) (own_setCell (p := ⟨wr.heap.size + 1, 1, none⟩) (own_setCell (p := ⟨wr.heap.size + 1, 0, none⟩) h1 (e1 h1) _) (e1 h1) _) (e1 h1) _
  · exact own_setCell (p := ⟨wr.heap.size + 1, 3, none⟩) (own_setCell (p := ⟨wr.heap.size + 1, 1, none⟩) (own_setCell (p := ⟨wr.heap.size + 1, 0, none⟩) h2 (e1 h2) _) (e1 h2) _) (e1 h2) _

theorem sc_clean {St : World → Int → (Nat → Prop) → Prop} {w W : World} {F F' q : Nat → Prop} {i : Int} (h : MvS St w F W i q F') {A : Option Addr} {y : List Int} {b o : Nat} {v : Value} (hb : q b) (hF : Kd.F (Kd.int .u8) W F' A y.length y) : Kd.F (Kd.int .u8) (W.setCell ⟨b, o, none⟩ v) F' A y.length y :=
  Kd.F_step hF (fun k hk _ => Below.heap_setCell _ _ _ k (fun e => h.off b hb (by have e' : k = b := e; rw [← e']; exact hk)))

set_option maxHeartbeats 6400000 in
set_option maxRecDepth 100000 in
theorem MemScript_calls {w : World} {o : Int} {ok : Nat → Prop} {A : Option Addr} {c : Nat} {l : List S77} {f : List Int → List Int → Int} {Te : Nat} {ae : Addr}
    (hV : Cmpr (ordV o) f) (hA : Kd.F k77 w ok A l.length l) (hb : ∀ x ∈ l, Byt x.f1 ∧ Byt x.f2) (hok : ∀ k, ok k → ¬ w.heap.size ≤ k) (htot : sumO l ≤ 1048576) (hlen : l.length ≤ 4096) (hE : w.cell? ⟨0, 0, none⟩ = some (.iface Te (.pointer (some ae)))) :
    Calls Tryz.prog 40 #[.int .i64 o, .slice A l.length c] w fun e w' => ∃ v, e = .returned v ∧ Kd.N k79 79 w' w.heap.size (fun k => w.heap.size ≤ k) v (scrL f [] l) ∧ Below w.heap.size w w' := by
  obtain ⟨T, hT⟩ : ∃ T, ordV o = .iface T (.agg #[]) := by
    unfold ordV
    split
    · exact ⟨_, rfl⟩
    · split
      · exact ⟨_, rfl⟩
      · exact ⟨_, rfl⟩
  have HT := Lib.hid (And.intro hT hV)
  have HE := Lib.hid hE
  have hlt0 : 0 < w.heap.size := by
    by_cases q : 0 < w.heap.size
    · exact q
    · have : w.heap[(0 : Nat)]? = none := Array.getElem?_eq_none (by omega)
      simp [World.cell?, this] at hE
  have HLT0 := Lib.hid hlt0
  clear hT hV hE hlt0
  generalize hn : l.length = n at *
  have HN := Lib.hid hn
  have HL := Lib.hid (And.intro htot hlen)
  clear hn htot hlen
  have HA := Lib.hid (And.intro hA (And.intro hb hok))
  clear hA hb hok
  go_enter Tryz.func40, Tryz.ntmps40
  go_wp2_with (first
    | (go_at_call 58; (with_reducible refine (orderOf_calls _ _).mono ?_); rintro e w1 ⟨rfl, rfl⟩)
    | (go_at_call 65; (with_reducible refine (Mem_new HT.out.1 HT.out.2).mono ?_); rintro e w1 ⟨p, D, rfl, hM, hB⟩))
  have HB1 := Lib.hid hB
  have HM := Lib.hid (show MvS (ScSt w.heap.size p (ordV o) f l) w1 (D.own p) w1 ((0 : Nat) : Int) (fun _ => False) (D.own p) from ⟨⟨D, [], rfl, hM, rfl⟩, Fr.refl _ _, fun k hk => .inl hk, fun k hk => hk.elim, fun k hk => hk.elim⟩)
  have HF := Lib.hid (show ∀ k, D.own p k → w.heap.size ≤ k ∧ k < w1.heap.size from fun k hk => ⟨hM.far k hk, hM.inside k hk⟩)
  have HP0 := Lib.hid (show 0 ≠ p from fun e => by have := HF.out p (.inr (.inl rfl)); have := HLT0.out; omega)
  have HE1 := Lib.hid ((HB1.out.cell (p := ⟨0, 0, none⟩) HLT0.out).trans HE.out)
  clear hM hB
  go_loopg [4, 15] n (fun k v4 v15 w' => ∃ (j : Nat) (F' : Nat → Prop), v15 = .int .i64 (j : Int) ∧ Hid (j ≤ n ∧ n ≤ j + k) ∧ Hid (Kd.N k79 79 w' w1.heap.size (fun k => w1.heap.size ≤ k ∧ ¬ F' k) v4 (scrL f [] (l.take j))) ∧ Hid (MvS (ScSt w.heap.size p (ordV o) f l) w1 (D.own p) w' ((j : Nat) : Int) (fun _ => False) F'))
  case atStart => exact ⟨0, D.own p, rfl, Lib.hid ⟨Nat.zero_le _, by omega⟩, Lib.hid (Kd.N_nil _ _ _ _ _), HM⟩
  case round =>
    obtain ⟨j, F', rfl, HJ, HNN, HMS⟩ := hrel
    by_cases hj : j < n
    · have hFr : Kd.F k77 wr ok A n l := Kd.F_step (Kd.F_below HA.out.1 HB1.out) (fun k ho hk => HMS.out.fr.block k hk (fun q => HA.out.2.2 k ho (HF.out k q).1))
      have hmem : l.getD j (⟨0, [], []⟩ : S77) ∈ l := by
        rw [List.getD_eq_getElem?_getD, List.getElem?_eq_getElem (by rw [HN.out]; exact hj)]
        exact List.getElem_mem _
      have HTK := Lib.hid (take_next (l := l) (i := j) (by rw [HN.out]; exact hj) (⟨0, [], []⟩ : S77))
      have HBY := Lib.hid (HA.out.2.1 _ hmem)
      obtain ⟨ad, A1, c1, A2, c2, rfl, r0, r1, r2, hF1, hF2, hl1, hl2⟩ := op_at hFr hj rfl
      generalize l.getD j (⟨0, [], []⟩ : S77) = x at *
      have hF' : ∀ k, F' k → w.heap.size ≤ k := sc_far HMS.out.st
      have HNF := Lib.hid (show ∀ k, ok k → ¬ F' k from fun k ho q => HA.out.2.2 k ho (hF' k q))
      have HN0 := Lib.hid (show ¬ F' 0 from fun q => by have := hF' 0 q; have := HLT0.out; omega)
      have HFA := Lib.hid (And.intro hF1 hF2)
      have HST := Lib.hid (ScC.mk (x := x) HMS.out.st HTK.out (Nat.le_trans (sumO_take l (j + 1)) (Nat.le_trans HL.out.1 (by decide))) (by have := HL.out.2; omega))
      have hEr : wr.cell? ⟨0, 0, none⟩ = some (.iface Te (.pointer (some ae))) := by
        have hlt : 0 < w1.heap.size := by have := HLT0.out; have := HB1.out.size; omega
        have := HMS.out.fr.block 0 hlt (fun q => by have := (HF.out 0 q).1; have := HLT0.out; omega)
        have h2 := HE1.out
        unfold World.cell? at h2 ⊢
        simp only at h2 ⊢
        rw [this]
        exact h2
      have HER := Lib.hid hEr
      have z0 : decide ((j : Int) < (n : Int)) = true := decide_eq_true (by omega)
      clear hF1 hF2 hmem hFr hF' hEr hl1 hl2
      go_upto_block 2 with (fail)
      have T2 := rs_two wr #[.int .i64 x.f0, .slice A1 x.f1.length c1, .slice A2 x.f2.length c2] #[.slice none 0 0, .slice none 0 0, .int .i64 0, .bool false] 77 79
      have hin := sc_hold.inside _ _ _ HMS.out.st
      have HM2 := Lib.hid ((sc_hold.below (show MvS (ScSt w.heap.size p (ordV o) f l) wr F' wr ((j : Nat) : Int) (fun _ => False) F' from ⟨HMS.out.st, Fr.refl _ _, fun k hk => .inl hk, fun k hk => hk.elim, fun k hk => hk.elim⟩) T2.2.2).more (q2 := fun k => k = wr.heap.size ∨ k = wr.heap.size + 1) (fun k hk => .inr (by
        have h1 := blk_lt T2.1
        have h2 := blk_lt T2.2.1
        rcases hk with rfl | rfl
        · exact ⟨Nat.le_refl _, h1, fun q => Nat.lt_irrefl _ (hin _ q)⟩
        · exact ⟨Nat.le_succ _, h2, fun q => by have := hin _ q; omega⟩)))
      have HS2 := Lib.hid (ScC.mk (x := x) HM2.out.st HST.out.tk HST.out.b1 HST.out.b2)
      have HF2 := Lib.hid (And.intro (Kd.F_below HFA.out.1 T2.2.2) (Kd.F_below HFA.out.2 T2.2.2))
      have HE2 := Lib.hid ((T2.2.2.cell (p := ⟨0, 0, none⟩) (by have := HLT0.out; have := HB1.out.size; have := HMS.out.fr.size; simp only; omega)).trans HER.out)
      have hc2 := T2.2.1
      have b1 := (blk_cell T2.1 1).trans rfl
      have b2 := (blk_cell T2.1 2).trans rfl
      have HBW := Lib.hid T2.2.2
      have HNE := Lib.hid (show ∀ (A : Option Addr) (y : List Int), Kd.F (Kd.int .u8) ((wr.alloc (.cells #[.int .i64 x.f0, .slice A1 x.f1.length c1, .slice A2 x.f2.length c2] 77)).alloc (.cells #[.slice none 0 0, .slice none 0 0, .int .i64 0, .bool false] 79)) ok A y.length y → 0 < y.length → ∀ a, A = some a → ¬ F' a.block from fun A y hF hp a ha q => HNF.out _ (Kd.F_in hF ha hp (by decide)) q)
      clear T2 hin r0 r1 r2
      generalize (wr.alloc (.cells #[.int .i64 x.f0, .slice A1 x.f1.length c1, .slice A2 x.f2.length c2] 77)).alloc (.cells #[.slice none 0 0, .slice none 0 0, .int .i64 0, .bool false] 79) = w2 at *
      go_cut [9] (fun v9 wc => Hid (SwO w.heap.size p (ordV o) f l wr F' j x (.iface Te (.pointer (some ae))) v9 wc))
      case first =>
        by_cases d0 : x.f0 = 0
        · have y0 : (x.f0 == 0) = true := by rw [beq_iff_eq]; exact d0
          have HY := Lib.hid (show ansL f (endM f (l.take j)) x = ⟨[], [], 0, true⟩ from by unfold ansL; rw [if_pos d0])
          have HC := Lib.hid (sc_put (ca := c1) (cb := c2) HS2.out d0 (Kd.F_now HF2.out.1) (Kd.F_now HF2.out.2) (HNE.out A1 x.f1 HF2.out.1) (HNE.out A2 x.f2 HF2.out.2) HBY.out.1 HBY.out.2)
          clear d0
          go_wp2_with ((with_reducible refine HC.out.mono ?_); rintro e w3 ⟨rfl, hmv⟩; obtain ⟨F1, hms, hk1⟩ := HM2.out.call hmv.out; have hc3 := (hk1 _ (.inr rfl)).trans hc2)
          go_meet
          case rel => exact Lib.hid (SwO.plain HY.out hms hc3 rfl)
        · have y0 : (x.f0 == 0) = false := by rw [beq_eq_false_iff_ne]; exact d0
          by_cases d1 : x.f0 = 1
          · have y1 : (x.f0 == 1) = true := by rw [beq_iff_eq]; exact d1
            have HY := Lib.hid (show ansL f (endM f (l.take j)) x = ⟨[], [], 0, hitL f x.f1 (endM f (l.take j))⟩ from by unfold ansL; rw [if_neg d0, if_pos d1])
            have HC := Lib.hid (sc_del (ca := c1) HS2.out d1 (Kd.F_now HF2.out.1) (HNE.out A1 x.f1 HF2.out.1) HBY.out.1 HE2.out HP0.out)
            clear d0 d1
            go_wp2_with ((with_reducible refine HC.out.mono ?_); rintro e w3 ⟨ge, rfl, hge, hmv⟩; obtain ⟨F1, hms, hk1⟩ := HM2.out.call hmv.out; have hc3 := (hk1 _ (.inr rfl)).trans hc2)
            go_meet
            case rel => exact Lib.hid (SwO.plain HY.out hms hc3 hge.out)
          · have y1 : (x.f0 == 1) = false := by rw [beq_eq_false_iff_ne]; exact d1
            by_cases d2 : x.f0 = 2
            · have y2 : (x.f0 == 2) = true := by rw [beq_iff_eq]; exact d2
              have HY := Lib.hid (show ansL f (endM f (l.take j)) x = ⟨[], if hitL f x.f1 (endM f (l.take j)) = true then (herL f x.f1 (endM f (l.take j))).2 else [], 0, hitL f x.f1 (endM f (l.take j))⟩ from by unfold ansL; rw [if_neg d0, if_neg d1, if_pos d2])
              have HC := Lib.hid (sc_get (ca := c1) HS2.out d2 (Kd.F_now HF2.out.1) (HNE.out A1 x.f1 HF2.out.1) HBY.out.1 HE2.out HP0.out)
              clear d0 d1 d2
              go_wp2_with ((with_reducible refine HC.out.mono ?_); rintro e w3 ⟨Ag, cg, ge, F1, yg, rfl, hy1, hge, hgc, hmv⟩; obtain ⟨hms, hk1⟩ := HM2.out.callK hmv.out; have hc3 := (hk1 _ (.inr rfl)).trans hc2; have s1 := (blk_cell hc3 1).trans rfl; have t1 := blk_frozen hc3 1)
              go_meet
              case rel => exact Lib.hid ⟨⟨F1, sc_hold.set hms (a := ⟨wr.heap.size + 1, 1, none⟩) (.inr rfl) _⟩, ⟨none, 0, Ag, cg, by rw [HY.out, ← hy1.out]; exact (blk_set hc3 1 _).trans rfl, by rw [HY.out]; exact Kd.C_nil _ _, by rw [HY.out, ← hy1.out]; exact Kd.F_now (sc_clean hms (.inr rfl) hgc.out)⟩, by rw [HY.out]; exact hge.out⟩
            · have y2 : (x.f0 == 2) = false := by rw [beq_eq_false_iff_ne]; exact d2
              by_cases d3 : x.f0 = 3
              · have y3 : (x.f0 == 3) = true := by rw [beq_iff_eq]; exact d3
                have HY := Lib.hid (show ansL f (endM f (l.take j)) x = ⟨[], [], 0, hitL f x.f1 (endM f (l.take j))⟩ from by unfold ansL; rw [if_neg d0, if_neg d1, if_neg d2, if_pos d3])
                have HC := Lib.hid (sc_has (ca := c1) HS2.out d3 (Kd.F_now HF2.out.1) (HNE.out A1 x.f1 HF2.out.1) HBY.out.1)
                clear d0 d1 d2 d3
                generalize hitL f x.f1 (endM f (l.take j)) = hb at *
                cases hb
                · go_wp2_with ((with_reducible refine HC.out.mono ?_); rintro e w3 ⟨rfl, hmv⟩; obtain ⟨F1, hms, hk1⟩ := HM2.out.call hmv.out; have hc3 := (hk1 _ (.inr rfl)).trans hc2; have e3 := mv_cell0 hmv.out HN0.out HE2.out)
                  go_meet
                  case rel => exact Lib.hid (SwO.plain HY.out hms hc3 rfl)
                · go_wp2_with ((with_reducible refine HC.out.mono ?_); rintro e w3 ⟨rfl, hmv⟩; obtain ⟨F1, hms, hk1⟩ := HM2.out.call hmv.out; have hc3 := (hk1 _ (.inr rfl)).trans hc2)
                  go_meet
                  case rel => exact Lib.hid (SwO.plain HY.out hms hc3 rfl)
              · have y3 : (x.f0 == 3) = false := by rw [beq_eq_false_iff_ne]; exact d3
                by_cases d4 : x.f0 = 4
                · have y4 : (x.f0 == 4) = true := by rw [beq_iff_eq]; exact d4
                  have HY := Lib.hid (show ansL f (endM f (l.take j)) x = ⟨if findL f x.f1 (endM f (l.take j)) < (endM f (l.take j)).length then (herL f x.f1 (endM f (l.take j))).1 else [], if findL f x.f1 (endM f (l.take j)) < (endM f (l.take j)).length then (herL f x.f1 (endM f (l.take j))).2 else [], 0, decide (findL f x.f1 (endM f (l.take j)) < (endM f (l.take j)).length)⟩ from by unfold ansL; rw [if_neg d0, if_neg d1, if_neg d2, if_neg d3, if_pos d4])
                  have HC := Lib.hid (sc_find (ca := c1) HS2.out d4 (Kd.F_now HF2.out.1) (HNE.out A1 x.f1 HF2.out.1) HBY.out.1 HE2.out HP0.out)
                  clear d0 d1 d2 d3 d4
                  go_wp2_with ((with_reducible refine HC.out.mono ?_); rintro e w3 ⟨Ag, cg, Bg, dg, ge, F1, yg, zg, rfl, hy1, hy2, hge, hgc, hgd, hmv⟩; obtain ⟨hms, hk1⟩ := HM2.out.callK hmv.out; have hc3 := (hk1 _ (.inr rfl)).trans hc2; have s0 := (blk_cell hc3 0).trans rfl; have t0 := blk_frozen hc3 0; have s1 := (blk_cell hc3 1).trans rfl; have t1 := blk_frozen hc3 1)
                  go_meet
                  case rel => exact Lib.hid ⟨⟨F1, sc_hold.set (sc_hold.set hms (a := ⟨wr.heap.size + 1, 0, none⟩) (.inr rfl) _) (a := ⟨wr.heap.size + 1, 1, none⟩) (.inr rfl) _⟩, ⟨Ag, cg, Bg, dg, by rw [HY.out, ← hy1.out, ← hy2.out]; exact (blk_set (blk_set hc3 0 _) 1 _).trans rfl, by rw [HY.out, ← hy1.out]; exact Kd.F_now (sc_clean (sc_hold.set hms (a := ⟨wr.heap.size + 1, 0, none⟩) (.inr rfl) _) (.inr rfl) (sc_clean hms (.inr rfl) hgc.out)), by rw [HY.out, ← hy2.out]; exact Kd.F_now (sc_clean (sc_hold.set hms (a := ⟨wr.heap.size + 1, 0, none⟩) (.inr rfl) _) (.inr rfl) (sc_clean hms (.inr rfl) hgd.out))⟩, by rw [HY.out]; simpa using hge.out⟩
                · have y4 : (x.f0 == 4) = false := by rw [beq_eq_false_iff_ne]; exact d4
                  by_cases d5 : x.f0 = 5
                  · have y5 : (x.f0 == 5) = true := by rw [beq_iff_eq]; exact d5
                    have HY := Lib.hid (show ansL f (endM f (l.take j)) x = ⟨[], [], ((endM f (l.take j)).length : Int), true⟩ from by unfold ansL; rw [if_neg d0, if_neg d1, if_neg d2, if_neg d3, if_neg d4, if_pos d5])
                    have HC := Lib.hid (sc_len HS2.out d5)
                    clear d0 d1 d2 d3 d4 d5
                    go_wp2_with ((with_reducible refine HC.out.mono ?_); rintro e w3 ⟨rfl, hmv⟩; obtain ⟨F1, hms, hk1⟩ := HM2.out.call hmv.out; have hc3 := (hk1 _ (.inr rfl)).trans hc2; have s2 := (blk_cell hc3 2).trans rfl; have t2 := blk_frozen hc3 2)
                    go_meet
                    case rel => exact Lib.hid (SwO.plain HY.out (sc_hold.set hms (a := ⟨wr.heap.size + 1, 2, none⟩) (.inr rfl) _) ((blk_set hc3 2 _).trans rfl) rfl)
                  · have y5 : (x.f0 == 5) = false := by rw [beq_eq_false_iff_ne]; exact d5
                    by_cases d6 : x.f0 = 6
                    · have y6 : (x.f0 == 6) = true := by rw [beq_iff_eq]; exact d6
                      have HY := Lib.hid (show ansL f (endM f (l.take j)) x = ⟨[], [], (wtL (endM f (l.take j)) : Int), true⟩ from by unfold ansL; rw [if_neg d0, if_neg d1, if_neg d2, if_neg d3, if_neg d4, if_neg d5, if_pos d6])
                      have HC := Lib.hid (sc_size HS2.out d6)
                      clear d0 d1 d2 d3 d4 d5 d6
                      go_wp2_with ((with_reducible refine HC.out.mono ?_); rintro e w3 ⟨rfl, hmv⟩; obtain ⟨F1, hms, hk1⟩ := HM2.out.call hmv.out; have hc3 := (hk1 _ (.inr rfl)).trans hc2; have s2 := (blk_cell hc3 2).trans rfl; have t2 := blk_frozen hc3 2)
                      go_meet
                      case rel => exact Lib.hid (SwO.plain HY.out (sc_hold.set hms (a := ⟨wr.heap.size + 1, 2, none⟩) (.inr rfl) _) ((blk_set hc3 2 _).trans rfl) rfl)
                    · have y6 : (x.f0 == 6) = false := by rw [beq_eq_false_iff_ne]; exact d6
                      have HY := Lib.hid (show ansL f (endM f (l.take j)) x = ⟨[], [], 0, true⟩ from by unfold ansL; rw [if_neg d0, if_neg d1, if_neg d2, if_neg d3, if_neg d4, if_neg d5, if_neg d6])
                      have HC := Lib.hid (sc_reset HS2.out d0 d1 d2 d3 d4 d5 d6)
                      clear d0 d1 d2 d3 d4 d5 d6
                      go_wp2_with ((with_reducible refine HC.out.mono ?_); rintro e w3 ⟨rfl, hmv⟩; obtain ⟨F1, hms, hk1⟩ := HM2.out.call hmv.out; have hc3 := (hk1 _ (.inr rfl)).trans hc2)
                      go_meet
                      case rel => exact Lib.hid (SwO.plain HY.out hms hc3 rfl)
      case rest =>
        obtain ⟨⟨F1, hms⟩, ⟨Ag, cg, Bg, dg, hans, hC1, hC2⟩, herr⟩ := hcut.out
        have hlim : wtL (endM f (l.take j)) ≤ 1048576 := Nat.le_trans (sc_room HMS.out.st) (Nat.le_trans (sumO_take l j) HL.out.1)
        have hrm := ans_room f (endM f (l.take j)) x
        generalize hy : ansL f (endM f (l.take j)) x = y at *
        have HY := Lib.hid hy
        have HANS := Lib.hid hans
        have HMC := Lib.hid hms
        have HCC := Lib.hid (And.intro hC1 hC2)
        have HRM := Lib.hid (And.intro (Nat.le_trans hrm.1 hlim) (Nat.le_trans hrm.2 hlim))
        have HLT := Lib.hid (blk_lt hans)
        clear hcut hy hC1 hC2 hrm hlim hms HM2 HS2 HF2 HE2 HNE HFA HBY HER
        have q1 : ∀ W, (eqGuard .eql 93 (.tmp 86) (.const .nilIface) u9 .nilIface).run Tryz.prog W = .ok () W := fun W => by rw [herr]; cases y.f3 <;> rfl
        have q2 : ∀ W, (binOp .eql 93 u9 .nilIface).run Tryz.prog W = .ok (.bool y.f3) W := fun W => by rw [herr]; cases y.f3 <;> rfl
        go_upto_region 24 with (fail)
        go_cut [] (fun wd => Hid (AnT w.heap.size p (ordV o) f l wr F' j wc.heap.size y wd))
        case first =>
          clear herr hj z0 b1 b2 hc2
          have l0 : wc.drew.cell? ⟨wr.heap.size + 1, 0, none⟩ = some (.slice Ag y.f0.length cg) := (blk_cell hans 0).trans rfl
          have l1 : wc.drew.cell? ⟨wr.heap.size + 1, 1, none⟩ = some (.slice Bg y.f1.length dg) := (blk_cell hans 1).trans rfl
          have hq1 := below_alloc (Below.refl wc.heap.size wc) (.cells #[] 5)
          have hq2 := below_alloc (Below.refl (wc.alloc (.cells #[] 5)).heap.size (wc.alloc (.cells #[] 5))) (.cells #[] 5)
          have E1 : Hid ((wc.alloc (.cells #[] 5)).drew.heap[wc.heap.size]? = some (.cells #[] 5 (0, 0))) := blk_new wc _
          have E2 : Hid (((wc.alloc (.cells #[] 5)).alloc (.cells #[] 5)).drew.heap[wc.heap.size]? = some (.cells #[] 5 (0, 0))) := (hq2.block wc.heap.size (by simp)).trans (blk_new wc _)
          have E3 : Hid (((wc.alloc (.cells #[] 5)).alloc (.cells #[] 5)).drew.heap[wc.heap.size + 1]? = some (.cells #[] 5 (0, 0))) := by
            have := blk_new (wc.alloc (.cells #[] 5)) (.cells #[] 5)
            rw [World.size_alloc] at this
            exact this
          have B1 : Hid (Below wc.heap.size wc (wc.alloc (.cells #[] 5)).drew) := Lib.hid hq1.drew
          have B2 : Hid (Below wc.heap.size wc ((wc.alloc (.cells #[] 5)).alloc (.cells #[] 5)).drew) := Lib.hid (below_then hq1 hq1.size hq2).drew
          have N1 := Lib.hid (show wc.heap.size ≠ wc.heap.size + 1 by omega)
          have N2 := Lib.hid (show wc.heap.size + 1 ≠ wc.heap.size by omega)
          have ha1 := (hq1.block _ HLT.out).trans HANS.out
          have ha2 := (hq2.block _ (blk_lt ha1)).trans ha1
          have l2 : (wc.alloc (.cells #[] 5)).drew.cell? ⟨wr.heap.size + 1, 0, none⟩ = some (.slice Ag y.f0.length cg) := (blk_cell ha1 0).trans rfl
          have l3 : (wc.alloc (.cells #[] 5)).drew.cell? ⟨wr.heap.size + 1, 1, none⟩ = some (.slice Bg y.f1.length dg) := (blk_cell ha1 1).trans rfl
          have l4 : ((wc.alloc (.cells #[] 5)).alloc (.cells #[] 5)).drew.cell? ⟨wr.heap.size + 1, 0, none⟩ = some (.slice Ag y.f0.length cg) := (blk_cell ha2 0).trans rfl
          have l5 : ((wc.alloc (.cells #[] 5)).alloc (.cells #[] 5)).drew.cell? ⟨wr.heap.size + 1, 1, none⟩ = some (.slice Bg y.f1.length dg) := (blk_cell ha2 1).trans rfl
          clear hq1 hq2 hans ha1 ha2
          rename_i J K hJ hK
          go_region_law
            (first
            | (refine copyM_step rfl (.tmp 82) (.tmp 84) 25 5 rfl Tryz.underlying25 info_u8 y.f1 _ _ _ rfl rfl (by first | exact empty_keptM hg1 E2.out N1.out | exact empty_keptM hg1 E3.out N2.out | exact blk_new w4 _) (by first | exact hb4.size | simp) HCC.out.2 (by first | exact hb4 | exact below_alloc' hb4 _) (Nat.le_trans HRM.out.2 (by decide)) ?_; intro A5 c5 w5 ho5 hb5 hg5 hat5; have ho4' := row_two (W2 := _) (w2 := w5) ho4 hat4 (by first | exact Or.inl rfl | exact Or.inr ⟨_, rfl⟩) hg5 (by intro b q1 q2 q3; simp at q1 q2 q3 ⊢; omega); have ha5 := (hb5.block _ HLT.out).trans HANS.out; have m0 : w5.cell? ⟨wr.heap.size + 1, 0, none⟩ = some (.slice Ag y.f0.length cg) := (blk_cell ha5 0).trans rfl; have m1 : w5.cell? ⟨wr.heap.size + 1, 1, none⟩ = some (.slice Bg y.f1.length dg) := (blk_cell ha5 1).trans rfl; have m3 : w5.cell? ⟨wr.heap.size + 1, 3, none⟩ = some (.bool false) := (blk_cell ha5 3).trans rfl; have o0 := blk_frozen ha5 0; have o1 := blk_frozen ha5 1; have o3 := blk_frozen ha5 3)
            | (refine copyM_step rfl (.tmp 78) (.tmp 80) 25 5 rfl Tryz.underlying25 info_u8 y.f0 _ _ _ rfl rfl (by first | exact E1.out | exact E2.out | exact E3.out) (by simp) HCC.out.1 (by first | exact B1.out | exact B2.out) (Nat.le_trans HRM.out.1 (by decide)) ?_; intro A4 c4 w4 ho4 hb4 hg1 hat4; have ha4 := (hb4.block _ HLT.out).trans HANS.out; have k0 : w4.cell? ⟨wr.heap.size + 1, 0, none⟩ = some (.slice Ag y.f0.length cg) := (blk_cell ha4 0).trans rfl; have k1 : w4.cell? ⟨wr.heap.size + 1, 1, none⟩ = some (.slice Bg y.f1.length dg) := (blk_cell ha4 1).trans rfl; have ha4b := ((below_alloc (Below.refl w4.heap.size w4) (.cells #[] 5)).block _ (blk_lt ha4)).trans ha4; have k2 : (w4.alloc (.cells #[] 5)).cell? ⟨wr.heap.size + 1, 1, none⟩ = some (.slice Bg y.f1.length dg) := (blk_cell ha4b 1).trans rfl))
          all_goals (
            simp only [Exit.then]
            refine hK _ _ (Met.intro (hJ _ _ ?_))
            repeat apply Exists.intro
            refine ⟨?_, rfl⟩
            exact Lib.hid (AnT.made HMC.out hb5 HANS.out ho4' ho5))
        case rest =>
          obtain ⟨F2, A7, c7, B7, d7, hm7, hh7, ho7, hp7⟩ := hcut.out.ex
          have HX := Lib.hid (sc_round sc_hold HMS.out HNN.out ho7 hp7 hm7 (fun g hg => ⟨own_base ho7 g hg, own_lt ho7 g hg⟩) (fun g hg => ⟨own_base hp7 g hg, own_lt hp7 g hg⟩) (fun g hg => Nat.le_trans HMC.out.fr.size hg.1))
          have k0 : wc.cell? ⟨wr.heap.size + 1, 0, none⟩ = some (.slice A7 y.f0.length c7) := (blk_cell hh7 0).trans rfl
          have k1 : wc.cell? ⟨wr.heap.size + 1, 1, none⟩ = some (.slice B7 y.f1.length d7) := (blk_cell hh7 1).trans rfl
          have k2 : wc.cell? ⟨wr.heap.size + 1, 2, none⟩ = some (.int .i64 y.f2) := (blk_cell hh7 2).trans rfl
          have k3 : wc.cell? ⟨wr.heap.size + 1, 3, none⟩ = some (.bool y.f3) := (blk_cell hh7 3).trans rfl
          have hjl : (scrL f [] (l.take j)).length = j := by rw [scrL_len, List.length_take, HN.out]; omega
          have HJL := Lib.hid (And.intro hjl (And.intro hj HJ.out.2))
          have w1' : wrap64 ((j : Int) + 1) = (j : Int) + 1 := wz (by omega) (by have := HL.out.2; omega)
          clear hjl hm7 hh7 ho7 hp7 hcut herr q1 q2
          go_upto_region 26 with (at_builtin; go_loud (refine Kd.N_append k79 w1.heap.size rfl (.tmp 91) (.tmp 93) 74 79 (.agg #[.slice none 0 0, .slice none 0 0, .int .i64 0, .bool false]) 64 rfl Tryz.underlying74 info_Ans rfl (by decide) (by decide) _ _ _ _ _ _ rfl rfl HX.out.1 HX.out.2.1 HX.out.2.2.1 HX.out.2.2.2.1 (Below.refl _ _) HX.out.2.2.2.2.1 (at_room HJL.out.1 HJL.out.2.1 (Nat.le_trans HL.out.2 (by decide))) ?_); intro v3 w3 hn3 hb3 hg3 hat3)
          have HMS3 := Lib.hid ((sc_hold.grown HX.out.2.2.2.2.2 hg3 (fun k hk => ⟨(HX.out.2.2.2.1.1 k hk).2, (HX.out.2.2.2.1.1 k hk).1⟩)).more (q2 := fun _ => False) (fun k hk => hk.elim))
          have HN3 := Lib.hid hn3
          clear hn3 hb3 hg3 hat3
          go_wp2
          go_roundg (gk - 1)
          case measure => exact round_less HJL.out.2.1 HJL.out.2.2
          case rel =>
            refine ⟨j + 1, F2, (by first | rfl | exact congrArg _ w1'), Lib.hid (round_next HJL.out.2.1 HJL.out.2.2), ?_, ?_⟩
            · rw [HTK.out, scrL_snoc]
              have := HY.out
              unfold endM at this
              rw [this]
              exact HN3
            · exact HMS3
    · have z0 : decide ((j : Int) < (n : Int)) = false := decide_eq_false (by omega)
      have hjn : j = n := by have := HJ.out.1; omega
      have HJN := Lib.hid hjn
      clear hjn
      go_wp2
      go_ret
      have e : l.take j = l := by rw [HJN.out, ← HN.out, List.take_length]
      have h1 := HNN.out
      rw [e] at h1
      refine ⟨_, rfl, N_low (Kd.N_mono h1 (fun k hk => Nat.le_trans HB1.out.size hk.1)) HB1.out.size, ?_⟩
      exact below_fr HB1.out HB1.out.size HMS.out.fr (fun k hk => (HF.out k hk).1)

end Go.Proofs.YtdkkkikcigjlhaaGreatDoor.Md
