/- impl's collector of records: Put and Delete. -/
import Derived.Test.YtddjenmengipkaaBtLoad
namespace Go.Proofs.Ytddjenmengipkaa.Bt
open Go.RowKit Go.Proofs.YtddjenmengipkaaW.PrintWords Go.Proofs.YtddjenmengipkaaW.PrintMore Go.Proofs.Ytddjenmengipkaa.PFnBatchLoads Go.Proofs.Ytddjenmengipkaa.Cmp
set_option linter.unusedVariables false

/-- append(v, ys...) of bytes inside a drawn region: v a row of one's own, ys read -/
theorem append_row_step {P : Program} {ops : Array Oper} {o : Oper} {a : Act} {Q : Exit → Act → World → Prop} {Kc : Act → World → Prop} {w0 W : World} (base : Nat)
    (hw : Region.wanted o (yielded ops a.tmps) = true) (s x : Operand) (t e : TypeId)
    (ho : o.op = .call { callee := .builtin .append, args := #[s, x], argTypes := #[t, t] })
    (ht : P.underlying t = some (.slice e)) (hinfo : (P.info? e).map (fun i => (i.zero, i.size, i.bytes)) = some (some (.int .u8 0), 1, 1))
    (v : Value) (xs ys : List Int) (A : Option Addr) (m c : Nat) (hs : a.eval s = v) (hx : a.eval x = .slice A m c)
    (HO : W.ownsRow base e 1 v xs.length (nums .u8 xs)) (HR : Kd.C (Kd.int .u8) W A m ys) (HB : Below base w0 W) (hbase : base ≤ W.heap.size) (hl : xs.length + m ≤ 140737488355328)
    (h : ∀ v1 w1, w1.ownsRow base e 1 v1 (xs ++ ys).length (nums .u8 (xs ++ ys)) → Below base w0 w1 → W.grownBy w1 v.ownBlock → (v1.ownBlock = v.ownBlock ∨ ∃ b, v1.ownBlock = some b ∧ W.heap.size ≤ b) → Kc (a.put o.dst v1) w1) :
    if Region.wanted o (yielded ops a.tmps) = true then Oper.wp P o a W Kc Q else Kc (a.put o.dst undef) W :=
  Kd.R_append_rows_step (Kd.int .u8) (Rr := (Kd.int .u8).K W) base hw s x t e (.int .u8 0) 1 ho ht hinfo rfl (by decide) (by decide) v xs ys A m c (fun _ => True) (fun _ => False) hs hx
    (Kd.R_of_own HO (fun _ _ => trivial)) HR (fun _ _ h => h) (fun _ h => h.elim) (fun _ _ => trivial) HB hbase (by omega)
    (fun v1 w1 h1 h2 h3 h4 => h v1 w1 (Kd.own_of_R h1) h2 h3 h4)

/-- bytes in a block of some kind -/
def CutB (w : World) (ok : Nat → Prop) (v : Value) (l : List Int) : Prop := ∃ A c, v = .slice A l.length c ∧ Kd.C (Kd.int .u8) w A l.length l ∧ l.length ≤ c ∧ ∀ a, A = some a → ok a.block

inductive RecB (w : World) (ok : Nat → Prop) : List Value → List Rec → Prop
  | nil : RecB w ok [] []
  | step {cs : List Value} {rs : List Rec} {d : Bool} {vk vv : Value} {k v : List Int} : RecB w ok cs rs → CutB w ok vk k → CutB w ok vv v → RecB w ok (cs ++ [.bool d, vk, vv]) (rs ++ [(d, k, v)])

theorem CutB.imp {w w' : World} {ok ok' : Nat → Prop} {v : Value} {l : List Int} (h : CutB w ok v l) (hk : ∀ b, ok b → w'.heap[b]? = w.heap[b]? ∧ ok' b) : CutB w' ok' v l := by
  obtain ⟨A, c, h1, h2, h3, h4⟩ := h
  exact ⟨A, c, h1, C_same h2 (fun a ha => (hk _ (h4 a ha)).1), h3, fun a ha => (hk _ (h4 a ha)).2⟩

theorem CutB.nil (w : World) (ok : Nat → Prop) : CutB w ok (.slice none 0 0) [] := ⟨none, 0, rfl, Kd.C_nil _ _, Nat.le_refl _, fun a ha => by cases ha⟩

theorem RecB.imp {w w' : World} {ok ok' : Nat → Prop} {cs : List Value} {rs : List Rec} (h : RecB w ok cs rs) (hk : ∀ b, ok b → w'.heap[b]? = w.heap[b]? ∧ ok' b) : RecB w' ok' cs rs := by
  induction h with
  | nil => exact .nil
  | step _ h1 h2 ih => exact .step ih (h1.imp hk) (h2.imp hk)

theorem own_CB {w : World} {base : Nat} {e : TypeId} {v : Value} {l : List Int} (h : w.ownsRow base e 1 v l.length (nums .u8 l)) : CutB w (fun b => base ≤ b ∧ b < w.heap.size) v l := by
  obtain ⟨A, c, hv, hC, hc⟩ := own_C h
  refine ⟨A, c, hv, hC, hc, fun a ha => ?_⟩
  rcases h.2 with ⟨h1, h2⟩ | ⟨g, cap, cur, h1, hg, hh, h2, _⟩
  · rw [hv] at h1
    subst ha
    cases h1
  · rw [hv] at h1
    injection h1 with e1 _ _
    rw [ha] at e1
    injection e1 with e1
    subst e1
    exact ⟨hg, blk_lt hh⟩

/-- the collector in a block of its own, its records in rows of their own -/
structure Rep (w : World) (base r : Nat) (vl : Value) (rs : List Rec) : Prop where
  cell : w.heap[r]? = some (.cells #[vl] 51 (0, 0))
  recs : ∃ cs, w.ownsRow base 38 3 vl rs.length cs ∧ RecB w (fun b => b < w.heap.size ∧ b ≠ r ∧ some b ≠ vl.ownBlock ∧ base ≤ b) cs rs
  at_ : base ≤ r

theorem Rep.push {w w1 w2 : World} {base r : Nat} {vl vk vv vl2 : Value} {rs : List Rec} {d : Bool} {k v : List Int} {cs : List Value} (hcell : w.heap[r]? = some (.cells #[vl] 51 (0, 0))) (hat : base ≤ r) (hbase : base ≤ w.heap.size) (hrow : w.ownsRow base 38 3 vl rs.length cs) (hrec : RecB w (fun b => b < w.heap.size ∧ b ≠ r ∧ some b ≠ vl.ownBlock ∧ base ≤ b) cs rs) (hb1 : Below w.heap.size w w1)
    (hk : CutB w1 (fun b => w.heap.size ≤ b ∧ b < w1.heap.size) vk k) (hv : CutB w1 (fun b => w.heap.size ≤ b ∧ b < w1.heap.size) vv v) (hr2 : w2.ownsRow base 38 3 vl2 (rs.length + 1) (cs ++ [.bool d, vk, vv])) (hg2 : w1.grownBy w2 vl.ownBlock) (hat2 : vl2.ownBlock = vl.ownBlock ∨ ∃ b, vl2.ownBlock = some b ∧ w1.heap.size ≤ b) :
    Rep (w2.setCell ⟨r, 0, none⟩ vl2) base r vl2 (rs ++ [(d, k, v)]) := by
  have hlt := blk_lt hcell
  have hz1 := hb1.size
  have hz2 := hg2.size
  have hk2 := (hg2.block r (Nat.lt_of_lt_of_le hlt hz1) (own_ne hrow hcell (by decide))).trans ((hb1.block r hlt).trans hcell)
  have hne2 := own_ne hr2 hk2 (by decide)
  have hnew : ∀ b, w.heap.size ≤ b → b < w1.heap.size → some b ≠ vl2.ownBlock := by
    intro b q1 q2
    rcases hat2 with e | ⟨b', e, hle⟩
    · rw [e]; exact own_far hrow q1
    · rw [e]; intro e3; injection e3 with e3; omega
  have hs : (w2.setCell ⟨r, 0, none⟩ vl2).heap.size = w2.heap.size := by simp
  have hnewk : ∀ b, (w.heap.size ≤ b ∧ b < w1.heap.size) → (w2.setCell ⟨r, 0, none⟩ vl2).heap[b]? = w1.heap[b]? ∧ (b < (w2.setCell ⟨r, 0, none⟩ vl2).heap.size ∧ b ≠ r ∧ some b ≠ vl2.ownBlock ∧ base ≤ b) := by
    intro b q
    have hbr : b ≠ r := by omega
    exact ⟨(Below.heap_setCell _ _ _ b hbr).trans (hg2.block b q.2 (own_far hrow q.1)), by rw [hs]; omega, hbr, hnew b q.1 q.2, by omega⟩
  refine ⟨(blk_set hk2 0 vl2).trans rfl, ⟨cs ++ [.bool d, vk, vv], ?_, ?_⟩, hat⟩
  · rw [List.length_append, List.length_singleton]
    exact own_setCell (p := ⟨r, 0, none⟩) hr2 hne2 _
  · refine .step (hrec.imp (fun b q => ?_)) (hk.imp hnewk) (hv.imp hnewk)
    refine ⟨(Below.heap_setCell _ _ _ b q.2.1).trans ((hg2.block b (by omega) q.2.2.1).trans (hb1.block b q.1)), by rw [hs]; omega, q.2.1, ?_, q.2.2.2⟩
    rcases hat2 with e | ⟨b', e, hle⟩
    · rw [e]; exact q.2.2.1
    · rw [e]; intro e3; injection e3 with e3; omega

theorem info_irec : (Try.prog.info? 38).map (fun i => (i.zero, i.size, i.bytes)) = some (some (.agg #[(.bool false), (.slice none 0 0), (.slice none 0 0)]), 3, 56) := by kernel_rfl

set_option maxHeartbeats 1600000 in
set_option maxRecDepth 100000 in
theorem Delete_calls {w : World} {base r : Nat} {vl : Value} {rs : List Rec} {A : Option Addr} {c : Nat} {k : List Int} (hR : Rep w base r vl rs) (hbase : base ≤ w.heap.size) (hk : Kd.C (Kd.int .u8) w A k.length k) (hkl : k.length ≤ 4294967296) (hrl : rs.length ≤ 4294967296) :
    Calls Try.prog 58 #[.pointer (some ⟨r, 0, none⟩), .slice A k.length c] w fun e w' => e = .returned (.tuple #[]) ∧ Below base w w' ∧ ∃ vl', Rep w' base r vl' (rs ++ [(true, k, [])]) := by
  have HR := Lib.hid hR
  have HK := Lib.hid hk
  have e0 : w.cell? ⟨r, 0, none⟩ = some vl := (blk_cell hR.cell 0).trans rfl
  have f0 := blk_frozen hR.cell 0
  have hlt := blk_lt hR.cell
  have hne : w.heap.size ≠ r := Nat.ne_of_gt hlt
  have ho0 : Hid (((w.alloc (.cells #[] 5)).drew).ownsRow w.heap.size 5 1 (.slice (some ⟨w.heap.size, 0, none⟩) 0 0) ([] : List Int).length (nums .u8 [])) := own_lit w w.heap.size 5 .u8 [] (Nat.le_refl _) (by decide)
  obtain ⟨cs, hrow, hrec⟩ := hR.recs
  have HROW := Lib.hid hrow
  have HREC := Lib.hid hrec
  clear hR hk hrow hrec
  generalize hn : k.length = n at *
  have HN := Lib.hid hn
  clear hn
  go_enter Try.func58, Try.ntmps58
  go_wp2
  go_region_law
    (first
    | (refine append_row_step w.heap.size rfl (.tmp 9) (.tmp 10) 22 5 rfl Try.underlying22 info_u8 _ [] k _ _ _ rfl rfl ho0.out (Kd.C_alloc HK.out _) ((below_alloc (Below.refl _ _) _).drew) (by simp) (by simp; omega) ?_; intro v1 w1 ho1 hb1 _ _; obtain ⟨A1, c1, rfl, hC1, hc1, hok1⟩ : CutB w1 (fun b => w.heap.size ≤ b ∧ b < w1.heap.size) v1 k := own_CB ho1; have ec1 : w1.cell? ⟨r, 0, none⟩ = some vl := (hb1.cell (p := ⟨r, 0, none⟩) hlt).trans e0; have hlt1 : r < w1.heap.size := Nat.lt_of_lt_of_le hlt hb1.size)
    | (refine step_append_cells base rfl (.tmp 8) (.tmp 13) 27 38 _ 3 56 rfl Try.underlying27 info_irec rfl (by decide) (by decide) vl rs.length cs [.bool true, .slice A1 k.length c1, .slice none 0 0] rfl rfl rfl (by simp [Value.oneCell']) (pw_own_below HROW.out hb1) (hb1.mono hbase) (Nat.le_trans hbase hb1.size) (by omega) ?_; intro v2 w2 hr2 hb2 hg2 hat2; replace hb2 : Below base w w2 := hb2; obtain ⟨A2, c2, rfl⟩ := own_slice hr2; have hk2 := (hg2.block r (Nat.lt_of_lt_of_le hlt hb1.size) (own_ne HROW.out HR.out.cell (by decide))).trans ((hb1.block r hlt).trans HR.out.cell); have ec2 : w2.cell? ⟨r, 0, none⟩ = some vl := (blk_cell hk2 0).trans rfl; have ef2 := blk_frozen hk2 0))
  all_goals
    go_end0
    exact ⟨rfl, hb2.setCell (p := ⟨r, 0, none⟩) HR.out.at_ _, _, Rep.push HR.out.cell HR.out.at_ hbase HROW.out HREC.out hb1 ⟨_, _, rfl, hC1, hc1, hok1⟩ (CutB.nil _ _) hr2 hg2 hat2⟩

end Go.Proofs.Ytddjenmengipkaa.Bt
