/- The reference's reader of a batch. -/
import Derived.Test.YtddjenmengipkaaBtSized
namespace Go.Proofs.Ytddjenmengipkaa.Bt
open Go.RowKit Go.Proofs.YtddjenmengipkaaW.PrintWords Go.Proofs.YtddjenmengipkaaW.PrintMore Go.Proofs.Ytddjenmengipkaa.PFnBatchLoads Go.Proofs.Ytddjenmengipkaa.Cmp
set_option linter.unusedVariables false

/-- a record: whether it deletes, its key, its value -/
abbrev Rec := Bool × List Int × List Int

/-- the records that bytes are; n: at most so many bytes -/
def rdI : Nat → List Int → Option (List Rec)
  | 0, _ => some []
  | _ + 1, [] => some []
  | n + 1, b :: l => match szI l with
    | none => none
    | some p => if 1 < b then none else if b = 1 then match szI p.2 with
        | none => none
        | some q => (rdI n q.2).map ((false, p.1, q.1) :: ·)
      else (rdI n p.2).map ((true, p.1, []) :: ·)

theorem szI_facts {l k r : List Int} (h : szI l = some (k, r)) (hb : Byt l) (hf : farI 0 l = false) : k.length + r.length < l.length ∧ Byt k ∧ Byt r ∧ farI 0 r = false := by
  unfold szI at h
  cases hu : uvI l with
  | none => rw [hu] at h; cases h
  | some p =>
    obtain ⟨x, m⟩ := p
    obtain ⟨f1, f2, f3, f4⟩ := uv_facts l x m hb hu
    rw [hu] at h
    simp only at h
    by_cases hx : ((l.length - m : Nat) : Int) < x
    · rw [if_pos hx] at h; cases h
    · rw [if_neg hx] at h
      injection h with h
      injection h with h1 h2
      subst h1 h2
      refine ⟨?_, fun y hy => hb y (List.mem_of_mem_drop (List.mem_of_mem_take hy)), byt_drop hb _, far_drop l hf _⟩
      simp only [List.length_take, List.length_drop]
      omega

/-- the cells of records whose bytes lie in an elder world -/
inductive RecW (w0 : World) : List Value → List Rec → Prop
  | nil : RecW w0 [] []
  | step {cs : List Value} {rs : List Rec} {d : Bool} {vk vv : Value} {k v : List Int} : RecW w0 cs rs → Cut w0 vk k → Cut w0 vv v → RecW w0 (cs ++ [.bool d, vk, vv]) (rs ++ [(d, k, v)])

theorem Cut.nil (w : World) : Cut w (.slice none 0 0) [] := ⟨none, 0, rfl, Kd.C_nil _ _, Nat.le_refl _⟩
theorem Cut.cell {w : World} {v : Value} {l : List Int} (h : Cut w v l) : v.oneCell' = true := by
  obtain ⟨A, c, rfl, _, _⟩ := h
  rfl

def RdTold (w0 w : World) (r : Option (List Rec)) (e : Ending) (w' : World) : Prop := Below w.heap.size w w' ∧ match r with
  | none => e = .returned (.tuple #[.slice none 0 0, .bool false])
  | some rs => ∃ v cs, e = .returned (.tuple #[v, .bool true]) ∧ w'.ownsRow w.heap.size 41 3 v rs.length cs ∧ RecW w0 cs rs

theorem info_rec : (Try.prog.info? 41).map (fun i => (i.zero, i.size, i.bytes)) = some (some (.agg #[(.bool false), (.slice none 0 0), (.slice none 0 0)]), 3, 56) := by kernel_rfl

theorem below_alloc' {B : Nat} {w W : World} (h : Below B w W) (o : Obj) (hB : B ≤ W.heap.size := by exact Below.size (by assumption)) : Below B w (W.alloc o) := h.alloc hB o
theorem blk_kept {w w' : World} {cs : Array Value} {t : TypeId} (h : Below (w.alloc (.cells cs t)).heap.size (w.alloc (.cells cs t)) w') : w'.heap[w.heap.size]? = some (.cells cs t (0, 0)) := by
  have e := blk_new w (.cells cs t)
  rw [← e]
  exact h.block _ (blk_lt e)

theorem own_far {w : World} {base n size : Nat} {e : TypeId} {v : Value} {xs : List Value} (h : w.ownsRow base e size v n xs) {g : Nat} (hg : w.heap.size ≤ g) : some g ≠ v.ownBlock := by
  rcases h.2 with ⟨rfl, _⟩ | ⟨g', cap, cur, rfl, _, hh, _⟩
  · simp [Value.ownBlock]
  · intro e
    have e : g = g' := by simpa [Value.ownBlock] using e
    have := blk_lt hh
    omega

theorem map_step {rs : List Rec} {x : Rec} {r R : Option (List Rec)} (h : (r.map (x :: ·)).map (rs ++ ·) = R) : r.map ((rs ++ [x]) ++ ·) = R := by
  rw [← h]
  cases r <;> simp

theorem RecW.cells {w0 : World} {vk vv : Value} {k v : List Int} {d : Bool} (hk : Cut w0 vk k) (hv : Cut w0 vv v) : ∀ u ∈ ([.bool d, vk, vv] : List Value), u.oneCell' = true := by
  intro u hu
  simp only [List.mem_cons, List.not_mem_nil, or_false] at hu
  rcases hu with rfl | rfl | rfl
  · rfl
  · exact hk.cell
  · exact hv.cell

def lenOf : Value → Nat
  | .slice _ n _ => n
  | _ => 0

set_option maxHeartbeats 800000 in
set_option maxRecDepth 100000 in
theorem BatchRead_calls {w0 w : World} {A : Option Addr} {c : Nat} {l : List Int} (h : Kd.C (Kd.int .u8) w0 A l.length l) (h0 : Below w0.heap.size w0 w) (hc : l.length ≤ c) (hb : Byt l) (hl : l.length ≤ 4294967296) (hf : farI 0 l = false) :
    Calls Try.prog 6 #[.slice A l.length c] w (RdTold w0 w (rdI l.length l)) := by
  have H0 := Lib.hid h0
  generalize hr0 : rdI l.length l = R
  have hr : Hid (Cut w0 (.slice A l.length c) l ∧ Byt l ∧ farI 0 l = false ∧ (rdI l.length l).map (([] : List Rec) ++ ·) = R) := ⟨⟨A, c, rfl, h, hc⟩, hb, hf, by rw [hr0]; cases R <;> simp⟩
  clear h h0 hb hf hr0
  generalize hn : l.length = n at *
  have HN := Lib.hid hn
  clear hn
  go_enter Try.func6, Try.ntmps6
  go_wp2
  go_loopw [0, 4] (fun v0 v4 wr => ∃ (d : List Int) (f : Nat) (rs : List Rec) (cs : List Value), Hid (Cut w0 v0 d) ∧ Hid (Byt d ∧ farI 0 d = false ∧ d.length ≤ f ∧ rs.length + d.length ≤ n) ∧ Hid ((rdI f d).map (rs ++ ·) = R) ∧ Hid (wr.ownsRow w.heap.size 41 3 v4 rs.length cs) ∧ Hid (RecW w0 cs rs) ∧ Hid (Below w.heap.size w wr)) (fun v0 _ _ => lenOf v0)
  case atStart => exact ⟨l, n, [], [], hr.out.1, ⟨hr.out.2.1, hr.out.2.2.1, by rw [HN.out]; exact Nat.le_refl _, by rw [HN.out]; simp⟩, hr.out.2.2.2, own_nil _ _ _ _, RecW.nil, Below.refl _ _⟩
  case round =>
    obtain ⟨d, f, rs, cs, HD, HB, HX, HO, HW, HR⟩ := hrel
    clear hr
    obtain ⟨Ad, cd, rfl, hCd, hcd⟩ := HD.out
    have HA := Lib.hid hCd
    clear hCd HD
    cases d with
    | nil =>
      have hx := HX.out
      have e : rdI f [] = some [] := by cases f <;> rfl
      rw [e] at hx
      simp only [Option.map_some, List.append_nil] at hx
      subst hx
      clear HX
      simp only [List.length_nil] at hcd ⊢
      go_wp2
      go_ret2
      exact ⟨HR.out, _, cs, rfl, HO.out, HW.out⟩
    | cons b d =>
      obtain ⟨hb2, hf2, hlf, hln⟩ := HB.out
      obtain ⟨f, rfl⟩ : ∃ q, f = q + 1 := ⟨f - 1, by simp at hlf; omega⟩
      have hx := HX.out
      rw [rdI] at hx
      have HX2 := Lib.hid hx
      clear HX hx
      have H1 := Lib.hid (below_then H0.out H0.out.size HR.out)
      obtain ⟨v1, t1, t2⟩ := drop_of Ad cd (b :: d) .i64 1 (by decide) (by rw [List.length_cons]; omega) hcd
      have t3 : Cut w0 v1 d := t2 w0 HA.out
      obtain ⟨A1, c1, rfl, hk1, hc1⟩ := t3
      obtain ⟨ad, rfl, hcell⟩ := (C_ints (Kd.C_below HA.out H1.out)).2.2 (by simp)
      have k0 := hcell 0 (by simp)
      rw [add_zero] at k0
      have k0 : wr.cell? ad = some (.int .u8 b) := k0
      have hby := hb2 b (by simp)
      have hS := Lib.hid (SizedOf_calls hk1 H1.out hc1 (fun y hy => hb2 y (by simp [hy])) (by simp at hln; omega) (far_tail b d 0 hf2))
      have hd2 : (b :: d).length = d.length + 1 := rfl
      have HT := Lib.hid (show d.length + 1 ≤ n ∧ d.length + 1 ≤ cd from ⟨by simp at hln; omega, by simpa using hcd⟩)
      have hbd : Byt d ∧ farI 0 d = false := ⟨fun y hy => hb2 y (by simp [hy]), far_tail b d 0 hf2⟩
      have HBD := Lib.hid hbd
      have HLN := Lib.hid hln
      have HLF := Lib.hid hlf
      clear hcell t2 hb2 hf2 hlf hln hk1 hc1 hbd HB
      simp only [List.length_cons] at hcd t1 ⊢
      cases hz : szI d with
      | none =>
        rw [hz] at HX2 hS
        have hx := HX2.out
        simp only [Option.map_none] at hx
        subst hx
        clear HX2 hz
        have HZ := HT.out
        have hdl : d.length + 1 ≤ 4294967296 := by omega
        generalize d.length = m at *
        go_wp2_with (go_at_call 15; (with_reducible refine hS.out.mono ?_); rintro e w1 ⟨hb1, rfl⟩)
        go_ret2
        exact ⟨below_then HR.out HR.out.size hb1, rfl⟩
      | some p =>
        obtain ⟨k, r⟩ := p
        have hfac := szI_facts hz HBD.out.1 HBD.out.2
        rw [hz] at HX2 hS
        have HF := Lib.hid hfac
        have hS : Hid (Calls Try.prog 15 #[.slice A1 d.length c1] wr fun e w' => Below wr.heap.size wr w' ∧ ∃ v u, e = .returned (.tuple #[v, u, .bool true]) ∧ Cut w0 v k ∧ Cut w0 u r) := hS
        clear hz hfac
        have hx := HX2.out
        simp only at hx
        have HZ := HT.out
        by_cases h1 : 1 < b
        · rw [if_pos h1] at hx
          simp only [Option.map_none] at hx
          subst hx
          clear HX2
          generalize d.length = m at *
          go_wp2_with (go_at_call 15; (with_reducible refine hS.out.mono ?_); rintro e w1 ⟨hb1, vk, vr, rfl, hk, hr⟩)
          go_ret2
          exact ⟨below_then HR.out HR.out.size hb1, rfl⟩
        · rw [if_neg h1] at hx
          by_cases h2 : b = 1
          · subst h2
            rw [if_pos rfl] at hx
            have HX := Lib.hid hx
            clear hx HX2 h1
            have hrl := HF.out
            have hS2 : Hid (∀ (A : Option Addr) (c : Nat) (W : World), Kd.C (Kd.int .u8) w0 A r.length r → r.length ≤ c → Below w0.heap.size w0 W → Calls Try.prog 15 #[.slice A r.length c] W (SzTold w0 W (szI r))) :=
              Lib.hid (fun A c W g1 g2 g3 => SizedOf_calls g1 g3 g2 hrl.2.2.1 (by omega) hrl.2.2.2)
            cases hz : szI r with
            | none =>
              rw [hz] at HX hS2
              have hx := HX.out
              simp only [Option.map_none] at hx
              subst hx
              clear HX hrl hz
              generalize hm : d.length = m at *
              have HM := Lib.hid hm
              clear hm
              go_wp2_with (first
                | (go_at_call 15; (with_reducible refine hS.out.mono ?_); rintro e w1 ⟨hb1, vk, vr, rfl, hk, hr⟩; obtain ⟨Ak, ck, rfl, hkc, hkl⟩ := hk; obtain ⟨Ar, cr, rfl, hrc, hrl⟩ := hr)
                | (go_at_call 15; have hb1' := below_alloc' hb1 (Obj.cells #[Value.bool false, Value.slice Ak k.length ck, Value.slice none 0 0] 41); (with_reducible refine (hS2.out Ar cr _ hrc hrl (below_then H1.out H1.out.size hb1')).mono ?_); rintro e w2 ⟨hb2, rfl⟩; have hblk := blk_kept hb2; have e0 := blk_cell hblk 0; have e1 := blk_cell hblk 1; have e2 := blk_cell hblk 2; have e3 := blk_frozen hblk 2; simp at e0 e1 e2 e3))
              go_ret2
              exact ⟨below_then HR.out HR.out.size ((below_then hb1' hb1'.size hb2).setCell (p := ⟨w1.heap.size, 2, none⟩) hb1.size _), rfl⟩
            | some q =>
              obtain ⟨v, r2⟩ := q
              have hfac := szI_facts hz hrl.2.2.1 hrl.2.2.2
              rw [hz] at HX hS2
              have HF2 := Lib.hid hfac
              have hS2 : Hid (∀ (A : Option Addr) (c : Nat) (W : World), Kd.C (Kd.int .u8) w0 A r.length r → r.length ≤ c → Below w0.heap.size w0 W → Calls Try.prog 15 #[.slice A r.length c] W fun e w' => Below W.heap.size W w' ∧ ∃ x u, e = .returned (.tuple #[x, u, .bool true]) ∧ Cut w0 x v ∧ Cut w0 u r2) := hS2
              clear hz hfac hrl
              generalize hm : d.length = m at *
              have HM := Lib.hid hm
              clear hm
              go_wp2_with (first
                | (go_at_call 15; (with_reducible refine hS.out.mono ?_); rintro e w1 ⟨hb1, vk, vr, rfl, hk, hr⟩; obtain ⟨Ak, ck, rfl, hkc, hkl⟩ := hk; obtain ⟨Ar, cr, rfl, hrc, hrl⟩ := hr)
                | (go_at_call 15; have hb1' := below_alloc' hb1 (Obj.cells #[Value.bool false, Value.slice Ak k.length ck, Value.slice none 0 0] 41); (with_reducible refine (hS2.out Ar cr _ hrc hrl (below_then H1.out H1.out.size hb1')).mono ?_); rintro e w2 ⟨hb2, vv, vr2, rfl, hvv, hvr2⟩; obtain ⟨Av, cv, rfl, hvc, hvl⟩ := hvv; obtain ⟨Ar2, cr2, rfl, hr2c, hr2l⟩ := hvr2; have hblk := blk_kept hb2; have e0 := blk_cell hblk 0; have e1 := blk_cell hblk 1; have e2 := blk_cell hblk 2; have e3 := blk_frozen hblk 2; simp at e0 e1 e2 e3; have hb3 := (below_then hb1' hb1'.size hb2).setCell (p := ⟨w1.heap.size, 2, none⟩) hb1.size (Value.slice Av v.length cv); have ho3 := own_setCell (p := ⟨w1.heap.size, 2, none⟩) (pw_own_below HO.out (below_then hb1' hb1'.size hb2)) (own_far HO.out hb1.size) (Value.slice Av v.length cv); have hsz : (w2.setCell ⟨w1.heap.size, 2, none⟩ (Value.slice Av v.length cv)).heap.size = w2.heap.size := by simp)
                | (at_builtin; (refine print_append_cells w.heap.size rfl (.tmp 44) (.tmp 46) 24 41 _ 3 56 rfl Try.underlying24 info_rec rfl (by decide) (by decide) u4 rs.length cs [.bool false, .slice Ak k.length ck, .slice Av v.length cv] rfl (by rw [hsz]; rfl) rfl (RecW.cells ⟨_, _, rfl, hkc, hkl⟩ ⟨_, _, rfl, hvc, hvl⟩) ho3 (below_then HR.out HR.out.size hb3) (Nat.le_trans HR.out.size hb3.size) (by have := HLN.out; simp at this; omega) ?_); intro v4 w4 ho4 hb4 _ _))
              go_roundw
              case rel =>
                have q1 := HF2.out.1
                have q2 := HF.out.1
                have q3 := HLF.out
                have q4 := HM.out
                have q5 := HLN.out
                simp only [List.length_cons] at q3 q5
                exact ⟨r2, f, rs ++ [(false, k, v)], cs ++ [.bool false, .slice Ak k.length ck, .slice Av v.length cv], Lib.hid ⟨_, _, rfl, hr2c, hr2l⟩, Lib.hid ⟨HF2.out.2.2.1, HF2.out.2.2.2, by omega, by rw [List.length_append, List.length_singleton]; omega⟩, Lib.hid (map_step HX.out), Lib.hid (by rw [List.length_append, List.length_singleton]; exact ho4), Lib.hid (RecW.step HW.out ⟨_, _, rfl, hkc, hkl⟩ ⟨_, _, rfl, hvc, hvl⟩), Lib.hid hb4⟩
              case measure =>
                have q1 := HF2.out.1
                have q2 := HF.out.1
                simp [lenOf]; omega
          · rw [if_neg h2] at hx
            have h3 : b = 0 := by omega
            subst h3
            have HX := Lib.hid hx
            clear hx HX2 h1 h2
            generalize hm : d.length = m at *
            have HM := Lib.hid hm
            clear hm
            go_wp2_with (first
              | (go_at_call 15; (with_reducible refine hS.out.mono ?_); rintro e w1 ⟨hb1, vk, vr, rfl, hk, hr⟩; obtain ⟨Ak, ck, rfl, hkc, hkl⟩ := hk; obtain ⟨Ar, cr, rfl, hrc, hrl⟩ := hr; have hb1' := below_alloc' hb1 (Obj.cells #[Value.bool true, Value.slice Ak k.length ck, Value.slice none 0 0] 41); have hblk := blk_new w1 (Obj.cells #[Value.bool true, Value.slice Ak k.length ck, Value.slice none 0 0] 41); have e0 := blk_cell hblk 0; have e1 := blk_cell hblk 1; have e2 := blk_cell hblk 2; simp at e0 e1 e2; have ho3 := pw_own_below HO.out hb1'; have hsz : (w1.alloc (Obj.cells #[Value.bool true, Value.slice Ak k.length ck, Value.slice none 0 0] 41)).heap.size = w1.heap.size + 1 := by simp)
              | (at_builtin; (refine print_append_cells w.heap.size rfl (.tmp 44) (.tmp 46) 24 41 _ 3 56 rfl Try.underlying24 info_rec rfl (by decide) (by decide) u4 rs.length cs [.bool true, .slice Ak k.length ck, .slice none 0 0] rfl (by rw [hsz]; rfl) rfl (RecW.cells ⟨_, _, rfl, hkc, hkl⟩ (Cut.nil w0)) ho3 (below_then HR.out HR.out.size hb1') (Nat.le_trans HR.out.size hb1'.size) (by have := HLN.out; simp at this; omega) ?_); intro v4 w4 ho4 hb4 _ _))
            go_roundw
            case rel =>
              have q2 := HF.out.1
              have q3 := HLF.out
              have q4 := HM.out
              have q5 := HLN.out
              simp only [List.length_cons] at q3 q5
              exact ⟨r, f, rs ++ [(true, k, [])], cs ++ [.bool true, .slice Ak k.length ck, .slice none 0 0], Lib.hid ⟨_, _, rfl, hrc, hrl⟩, Lib.hid ⟨HF.out.2.2.1, HF.out.2.2.2, by omega, by rw [List.length_append, List.length_singleton]; omega⟩, Lib.hid (map_step HX.out), Lib.hid (by rw [List.length_append, List.length_singleton]; exact ho4), Lib.hid (RecW.step HW.out ⟨_, _, rfl, hkc, hkl⟩ (Cut.nil w0)), Lib.hid hb4⟩
            case measure =>
              have q2 := HF.out.1
              simp [lenOf]; omega

end Go.Proofs.Ytddjenmengipkaa.Bt
