/- The reference's cursor: a move. The memory table: Delete. The memory table: Put of a key that is there. -/
import Derived.Test.YtdkkkikcigjlhaaGreatDoorMj10
import Derived.BigRegion
import Derived.Test.YtdkkkikcigjlhaaGreatDoorMj14
set_option linter.unusedVariables false
set_option linter.unusedSimpArgs false
namespace Go.Proofs.YtdkkkikcigjlhaaGreatDoor.Md
open Go.RowKit Go.Proofs.YtdkkkikcigjlhaaGreatDoor.Con Go.Proofs.YtdkkkikcigjlhaaGreatDoor.Run Go.Proofs.YtdkkkikcigjlhaaGreatDoorW.PrintWords Go.Proofs.YtdkkkikcigjlhaaGreatDoorW.PrintMore Go.Proofs.YtdkkkikcigjlhaaGreatDoor.Cmp Go.Sort Go.Proofs.YtdkkkikcigjlhaaGreatDoor.PFnMemMap
attribute [local go_sem] max2_int min2_int max_two min_two

def curV (o : Int) (A : Option Addr) (n c : Nat) (i : Int) : Value := .agg #[.int .i64 o, .slice A n c, .int .i64 i]

def CmTold (o : Int) (A : Option Addr) (n c : Nat) (L : List KV) (w : World) (j : Int) (e : Ending) (w' : World) : Prop :=
  e = .returned (.tuple #[curV o A n c j, .bool (onL L j)]) ∧ Below w.heap.size w w'

theorem two_new (w : World) (x y : Array Value) (t : TypeId) : ((w.alloc (.cells x t)).alloc (.cells y t)).heap[w.heap.size]? = some (.cells x t (0, 0)) ∧ ((w.alloc (.cells x t)).alloc (.cells y t)).heap[w.heap.size + 1]? = some (.cells y t (0, 0)) ∧ Below w.heap.size w ((w.alloc (.cells x t)).alloc (.cells y t)) := by
  have h1 := below_alloc (Below.refl w.heap.size w) (.cells x t)
  have n1 := blk_new w (.cells x t)
  have n2 := blk_new (w.alloc (.cells x t)) (.cells y t)
  rw [World.size_alloc] at n2
  have h2 := below_alloc (Below.refl (w.alloc (.cells x t)).heap.size (w.alloc (.cells x t))) (.cells y t)
  exact ⟨(h2.block _ (blk_lt n1)).trans n1, n2, h1.trans (h2.mono h1.size)⟩

set_option maxHeartbeats 6400000 in
theorem move_c {w : World} {A B : Option Addr} {n c d : Nat} {l : List S36} {key : List Int} (o i m : Int) (hA : Kd.C k36 w A n l) (hn : l.length = n) (hc : n ≤ c) (hB : Kd.C (Kd.int .u8) w B key.length key) (hd : key.length ≤ d) (hk : key.length ≤ 4294967296) (hx : ∀ x ∈ l, x.f0.length ≤ 4294967296) (hl : n ≤ 4294967296) (hi : -1 ≤ i ∧ i ≤ (n : Int)) :
    Calls Tryz.prog 64 #[curV o A n c i, .int .i64 m, .slice B key.length d] w fun e w' => CmTold o A n c (kvC l) w (mvL (cmpO o) (kvC l) i m key) e w' := by
  subst hn
  have HA := Lib.hid (And.intro hA (And.intro hc (And.intro hB (And.intro hd (And.intro hk (And.intro hx hl))))))
  have HL := Lib.hid hl
  have HI := Lib.hid hi
  have hlen : (kvC l).length = l.length := kvC_len l
  have HLN := Lib.hid hlen
  have H2 := Lib.hid (two_new w #[.int .i64 o, .slice A l.length c, .int .i64 i] #[.int .i64 0, .slice none 0 0, .int .i64 0] 116)
  clear hA hc hB hd hk hx hl hi hlen
  unfold curV
  go_enter Tryz.func64, Tryz.ntmps64
  go_upto_region 1 with (fail)
  have ha := H2.out.1
  have hb := H2.out.2.1
  have HBL := Lib.hid H2.out.2.2
  clear H2
  generalize (w.alloc (.cells #[.int .i64 o, .slice A l.length c, .int .i64 i] 116)).alloc (.cells #[.int .i64 0, .slice none 0 0, .int .i64 0] 116) = w1 at *
  have k0 : w1.cell? ⟨w.heap.size, 0, none⟩ = some (.int .i64 o) := (blk_cell ha 0).trans rfl
  have k1 : w1.cell? ⟨w.heap.size, 1, none⟩ = some (.slice A l.length c) := (blk_cell ha 1).trans rfl
  have k2 : w1.cell? ⟨w.heap.size, 2, none⟩ = some (.int .i64 i) := (blk_cell ha 2).trans rfl
  have f2 : w1.frozen? ⟨w.heap.size, 2, none⟩ = false := blk_frozen ha 2
  have HAB := Lib.hid (And.intro ha hb)
  clear ha hb
  go_upto_block 0 with (fail)
  go_cut [] (fun wc => Hid (wc.heap[w.heap.size]? = some (.cells #[.int .i64 o, .slice A l.length c, .int .i64 (mvL (cmpO o) (kvC l) i m key)] 116 (0, 0)) ∧ wc.heap[w.heap.size + 1]? = some (.cells #[.int .i64 0, .slice none 0 0, .int .i64 0] 116 (0, 0)) ∧ Below w.heap.size w wc))
  case first =>
    have fin : ∀ j, mvL (cmpO o) (kvC l) i m key = j → Hid ((w1.setCell ⟨w.heap.size, 2, none⟩ (.int .i64 j)).heap[w.heap.size]? = some (.cells #[.int .i64 o, .slice A l.length c, .int .i64 (mvL (cmpO o) (kvC l) i m key)] 116 (0, 0)) ∧ (w1.setCell ⟨w.heap.size, 2, none⟩ (.int .i64 j)).heap[w.heap.size + 1]? = some (.cells #[.int .i64 0, .slice none 0 0, .int .i64 0] 116 (0, 0)) ∧ Below w.heap.size w (w1.setCell ⟨w.heap.size, 2, none⟩ (.int .i64 j))) := fun j hj => Lib.hid ⟨by rw [hj]; exact blk_set HAB.out.1 2 _, (Below.heap_setCell _ _ _ _ (by simp)).trans HAB.out.2, below_set HBL.out (Nat.le_refl _)⟩
    have FIN := Lib.hid fin
    clear fin
    by_cases h0 : m = 0
    · have z0 : (m == 0) = true := by rw [beq_iff_eq]; exact h0
      have HM : Hid (mvL (cmpO o) (kvC l) i m key = 0) := Lib.hid (by unfold mvL; rw [if_pos h0])
      clear h0
      go_wp2
      go_meet
      case rel => exact FIN.out _ HM.out
    · have z0 : (m == 0) = false := by rw [beq_eq_false_iff_ne]; exact h0
      by_cases h1 : m = 1
      · have z1 : (m == 1) = true := by rw [beq_iff_eq]; exact h1
        have w1' : wrap64 ((l.length : Int) - 1) = (l.length : Int) - 1 := by have := HL.out; unfold wrap64; omega
        have HM : Hid (mvL (cmpO o) (kvC l) i m key = (l.length : Int) - 1) := Lib.hid (by unfold mvL; rw [if_neg h0, if_pos h1, HLN.out])
        clear h0 h1
        go_wp2
        go_meet
        case rel => first | exact FIN.out _ HM.out | (rw [w1']; exact FIN.out _ HM.out)
      · have z1 : (m == 1) = false := by rw [beq_eq_false_iff_ne]; exact h1
        by_cases h2 : m = 2
        · have z2 : (m == 2) = true := by rw [beq_iff_eq]; exact h2
          have w1' : wrap64 (i + 1) = i + 1 := by have := HL.out; have := HI.out; unfold wrap64; omega
          have HM : Hid (mvL (cmpO o) (kvC l) i m key = if i + 1 ≤ (l.length : Int) then i + 1 else (l.length : Int)) := Lib.hid (by unfold mvL; rw [if_neg h0, if_neg h1, if_pos h2, HLN.out])
          clear h0 h1 h2
          go_wp2
          all_goals (
            go_meet
            case rel =>
              refine FIN.out _ (HM.out.trans ?_)
              split <;> omega)
        · have z2 : (m == 2) = false := by rw [beq_eq_false_iff_ne]; exact h2
          by_cases h3 : m = 3
          · have z3 : (m == 3) = true := by rw [beq_iff_eq]; exact h3
            have w1' : wrap64 (i - 1) = i - 1 := by have := HL.out; have := HI.out; unfold wrap64; omega
            have HM : Hid (mvL (cmpO o) (kvC l) i m key = if -1 ≤ i - 1 then i - 1 else -1) := Lib.hid (by unfold mvL; rw [if_neg h0, if_neg h1, if_neg h2, if_pos h3])
            clear h0 h1 h2 h3
            go_wp2
            all_goals (
              go_meet
              case rel =>
                refine FIN.out _ (HM.out.trans ?_)
                split <;> omega)
          · have z3 : (m == 3) = false := by rw [beq_eq_false_iff_ne]; exact h3
            have HM : Hid (mvL (cmpO o) (kvC l) i m key = (findL (cmpO o) key (kvC l) : Int)) := Lib.hid (by unfold mvL; rw [if_neg h0, if_neg h1, if_neg h2, if_neg h3])
            clear h0 h1 h2 h3
            go_wp2_with (go_at_call 35; (with_reducible refine (find_calls o (Kd.C_below HA.out.1 HBL.out) HA.out.2.1 (Kd.C_below HA.out.2.2.1 HBL.out) HA.out.2.2.2.1 HA.out.2.2.2.2.1 HA.out.2.2.2.2.2.1 HL.out).mono ?_); rintro e w2 ⟨rfl, hb2⟩; have g2 := (hb2.block _ (blk_lt HAB.out.1)).trans HAB.out.1; have g3 := (hb2.block _ (blk_lt HAB.out.2)).trans HAB.out.2; have f3 := blk_frozen g2 2; have k3 := (blk_cell g2 2).trans rfl)
            go_meet
            case rel => exact Lib.hid ⟨by rw [HM.out]; exact blk_set g2 2 _, (Below.heap_setCell _ _ _ _ (by simp)).trans g3, below_set (HBL.out.trans (hb2.mono HBL.out.size)) (Nat.le_refl _)⟩
  case rest =>
    have HC := hcut
    generalize hj : mvL (cmpO o) (kvC l) i m key = j at *
    have HJ := Lib.hid hj
    clear hj hcut
    have ha := HC.out.1
    have hb := HC.out.2.1
    have x0 : wc.cell? ⟨w.heap.size, 0, none⟩ = some (.int .i64 o) := (blk_cell ha 0).trans rfl
    have x1 : wc.cell? ⟨w.heap.size, 1, none⟩ = some (.slice A l.length c) := (blk_cell ha 1).trans rfl
    have x2 : wc.cell? ⟨w.heap.size, 2, none⟩ = some (.int .i64 j) := (blk_cell ha 2).trans rfl
    have y0 : wc.cell? ⟨w.heap.size + 1, 0, none⟩ = some (.int .i64 0) := (blk_cell hb 0).trans rfl
    have y1 : wc.cell? ⟨w.heap.size + 1, 1, none⟩ = some (.slice none 0 0) := (blk_cell hb 1).trans rfl
    have y2 : wc.cell? ⟨w.heap.size + 1, 2, none⟩ = some (.int .i64 0) := (blk_cell hb 2).trans rfl
    have g0 : wc.frozen? ⟨w.heap.size + 1, 0, none⟩ = false := blk_frozen hb 0
    have g1 : wc.frozen? ⟨w.heap.size + 1, 1, none⟩ = false := blk_frozen hb 1
    have g2 : wc.frozen? ⟨w.heap.size + 1, 2, none⟩ = false := blk_frozen hb 2
    have hb3 := blk_set (blk_set (blk_set hb 0 (.int .i64 o)) 1 (.slice A l.length c)) 2 (.int .i64 j)
    have q0 : (((wc.setCell ⟨w.heap.size + 1, 0, none⟩ (.int .i64 o)).setCell ⟨w.heap.size + 1, 1, none⟩ (.slice A l.length c)).setCell ⟨w.heap.size + 1, 2, none⟩ (.int .i64 j)).drew.cell? ⟨w.heap.size + 1, 0, none⟩ = some (.int .i64 o) := (blk_cell hb3 0).trans rfl
    have q1 : (((wc.setCell ⟨w.heap.size + 1, 0, none⟩ (.int .i64 o)).setCell ⟨w.heap.size + 1, 1, none⟩ (.slice A l.length c)).setCell ⟨w.heap.size + 1, 2, none⟩ (.int .i64 j)).drew.cell? ⟨w.heap.size + 1, 1, none⟩ = some (.slice A l.length c) := (blk_cell hb3 1).trans rfl
    have q2 : (((wc.setCell ⟨w.heap.size + 1, 0, none⟩ (.int .i64 o)).setCell ⟨w.heap.size + 1, 1, none⟩ (.slice A l.length c)).setCell ⟨w.heap.size + 1, 2, none⟩ (.int .i64 j)).drew.cell? ⟨w.heap.size + 1, 2, none⟩ = some (.int .i64 j) := (blk_cell hb3 2).trans rfl
    have HBF := Lib.hid (below_drew1 (below_set (g := w.heap.size + 1) (j := 2) (below_set (g := w.heap.size + 1) (j := 1) (below_set (g := w.heap.size + 1) (j := 0) HC.out.2.2 (Nat.le_succ _) (v := .int .i64 o)) (Nat.le_succ _) (v := .slice A l.length c)) (Nat.le_succ _) (v := .int .i64 j)))
    clear ha hb k0 k1 k2 f2 hb3 HC
    clear HA HI HAB HBL
    by_cases h0 : 0 ≤ j
    · have z0 : decide (0 ≤ j) = true := decide_eq_true h0
      by_cases h1 : j < (l.length : Int)
      · have z1 : decide (j < (l.length : Int)) = true := decide_eq_true h1
        have HON : Hid (onL (kvC l) j = true) := Lib.hid (by unfold onL; rw [HLN.out, z0, z1]; rfl)
        clear h0 h1
        go_upto_region 11 with (fail)
        go_region
        all_goals (
          rename_i K' hK'
          simp only [Exit.then]
          refine hK' _ _ ?_
          go_wp2
          simp [bodyPost, results, Tryz.results64, go_sem, q0, q1, q2]
          exact ⟨by rw [HJ.out, HON.out]; rfl, HBF.out⟩)
      · have z1 : decide (j < (l.length : Int)) = false := decide_eq_false h1
        have HON : Hid (onL (kvC l) j = false) := Lib.hid (by unfold onL; rw [HLN.out, z0, z1]; rfl)
        clear h0 h1
        go_upto_region 11 with (fail)
        go_region
        all_goals (
          rename_i K' hK'
          simp only [Exit.then]
          refine hK' _ _ ?_
          go_wp2
          simp [bodyPost, results, Tryz.results64, go_sem, q0, q1, q2]
          exact ⟨by rw [HJ.out, HON.out]; rfl, HBF.out⟩)
    · have z0 : decide (0 ≤ j) = false := decide_eq_false h0
      have HON : Hid (onL (kvC l) j = false) := Lib.hid (by unfold onL; rw [z0]; rfl)
      clear h0
      go_upto_region 11 with (fail)
      go_region
      all_goals (
        rename_i K' hK'
        simp only [Exit.then]
        refine hK' _ _ ?_
        go_wp2
        simp [bodyPost, results, Tryz.results64, go_sem, q0, q1, q2]
        exact ⟨by rw [HJ.out, HON.out]; rfl, HBF.out⟩)

end Go.Proofs.YtdkkkikcigjlhaaGreatDoor.Md

namespace Go.Proofs.YtdkkkikcigjlhaaGreatDoor.Md
open Go.RowKit Go.Proofs.YtdkkkikcigjlhaaGreatDoor.Con Go.Proofs.YtdkkkikcigjlhaaGreatDoor.Run Go.Proofs.YtdkkkikcigjlhaaGreatDoorW.PrintWords Go.Proofs.YtdkkkikcigjlhaaGreatDoorW.PrintMore Go.Proofs.YtdkkkikcigjlhaaGreatDoor.Cmp Go.Sort Go.RwLone

theorem next_idx {i n : Nat} (h : i < n) (hn : n ≤ 12) : wrap64 ((i : Int) + 1) = ((i + 1 : Nat) : Int) := by rw [wz (by omega) (by omega)]; rfl
theorem round_less {i n k : Nat} (h : i < n) (hk : n ≤ i + k) : k - 1 < k := by omega
theorem round_next {i n k : Nat} (h : i < n) (hk : n ≤ i + k) : i + 1 ≤ n ∧ n ≤ i + 1 + (k - 1) := by omega

def foot (p gr : Nat) (vk vn : Value) (k : Nat) : Prop := k = p ∨ k = gr ∨ some k = vk.ownBlock ∨ some k = vn.ownBlock

theorem Tab.kvNe {W : World} {base p : Nat} {cs : Array Value} {vk vn : Value} {kv nd : List Int} (h : Tab W base p cs vk vn kv nd) : some p ≠ vk.ownBlock := own_ne h.kv h.cell (by decide)
theorem Tab.ndNe {W : World} {base p : Nat} {cs : Array Value} {vk vn : Value} {kv nd : List Int} (h : Tab W base p cs vk vn kv nd) : some p ≠ vn.ownBlock := own_ne h.nd h.cell (by decide)
theorem Tab.room {W : World} {base p : Nat} {cs : Array Value} {vk vn : Value} {kv nd : List Int} (h : Tab W base p cs vk vn kv nd) : base ≤ W.heap.size := Nat.le_trans h.at_ (Nat.le_of_lt (blk_lt h.cell))

theorem Tab.grewKv {W w1 : World} {base p : Nat} {cs : Array Value} {vk vn v1 : Value} {kv nd l : List Int} (h : Tab W base p cs vk vn kv nd) (ho : w1.ownsRow base 5 1 v1 l.length (nums .u8 l)) (hg : W.grownBy w1 vk.ownBlock) :
    w1.heap[p]? = some (.cells cs 188 (0, 0)) ∧ Tab (w1.setCell ⟨p, 8, none⟩ v1) base p (cs.setIfInBounds 8 v1) v1 vn l nd := by
  have hc := (hg.block p (blk_lt h.cell) h.kvNe).trans h.cell
  have hn : w1.ownsRow base 3 1 vn nd.length (nums .i64 nd) := own_other h.nd hg (own_type_ne h.nd h.kv (by decide))
  exact ⟨hc, blk_set hc 8 v1, own_setCell (p := ⟨p, 8, none⟩) ho (own_ne ho hc (by decide)) v1, own_setCell (p := ⟨p, 8, none⟩) hn (own_ne hn hc (by decide)) v1, h.at_⟩

theorem Tab.grewNd {W w1 : World} {base p : Nat} {cs : Array Value} {vk vn v1 : Value} {kv nd l : List Int} (h : Tab W base p cs vk vn kv nd) (ho : w1.ownsRow base 3 1 v1 l.length (nums .i64 l)) (hg : W.grownBy w1 vn.ownBlock) :
    w1.heap[p]? = some (.cells cs 188 (0, 0)) ∧ Tab (w1.setCell ⟨p, 9, none⟩ v1) base p (cs.setIfInBounds 9 v1) vk v1 kv l := by
  have hc := (hg.block p (blk_lt h.cell) h.ndNe).trans h.cell
  have hk : w1.ownsRow base 5 1 vk kv.length (nums .u8 kv) := own_other h.kv hg (own_type_ne h.kv h.nd (by decide))
  exact ⟨hc, blk_set hc 9 v1, own_setCell (p := ⟨p, 9, none⟩) hk (own_ne hk hc (by decide)) v1, own_setCell (p := ⟨p, 9, none⟩) ho (own_ne ho hc (by decide)) v1, h.at_⟩

theorem foot_kv {w W : World} {p gr : Nat} {vk vn vk0 vn0 v1 : Value} (h : ∀ k, foot p gr vk vn k → foot p gr vk0 vn0 k ∨ w.heap.size ≤ k) (hat : v1.ownBlock = vk.ownBlock ∨ ∃ b, v1.ownBlock = some b ∧ W.heap.size ≤ b) (hs : w.heap.size ≤ W.heap.size) :
    ∀ k, foot p gr v1 vn k → foot p gr vk0 vn0 k ∨ w.heap.size ≤ k := by
  intro k hk
  rcases hk with q | q | q | q
  · exact h k (.inl q)
  · exact h k (.inr (.inl q))
  · rcases hat with e | ⟨b, e, hb⟩
    · exact h k (.inr (.inr (.inl (q.trans e))))
    · rw [e] at q
      injection q with q
      exact .inr (by omega)
  · exact h k (.inr (.inr (.inr q)))

theorem foot_nd {w W : World} {p gr : Nat} {vk vn vk0 vn0 v1 : Value} (h : ∀ k, foot p gr vk vn k → foot p gr vk0 vn0 k ∨ w.heap.size ≤ k) (hat : v1.ownBlock = vn.ownBlock ∨ ∃ b, v1.ownBlock = some b ∧ W.heap.size ≤ b) (hs : w.heap.size ≤ W.heap.size) :
    ∀ k, foot p gr vk v1 k → foot p gr vk0 vn0 k ∨ w.heap.size ≤ k := by
  intro k hk
  rcases hk with q | q | q | q
  · exact h k (.inl q)
  · exact h k (.inr (.inl q))
  · exact h k (.inr (.inr (.inl q)))
  · rcases hat with e | ⟨b, e, hb⟩
    · exact h k (.inr (.inr (.inr (q.trans e))))
    · rw [e] at q
      injection q with q
      exact .inr (by omega)

def PutLeft (w : World) (base p gr : Nat) (vk vn V : Value) (r : Nat) (kv nd key val : List Int) (n sz : Int) (ns : List Node) (w' : World) : Prop :=
  Fr w w' (foot p gr vk vn) ∧ ∃ cs' q' Kx' ck' N' c' kv' nd' mh', Tab w' base p cs' (.slice Kx' kv'.length ck') (.slice N' nd'.length c') kv' nd' ∧ Cs cs' V r 0 0 (.slice Kx' kv'.length ck') (.slice N' nd'.length c') q' ((mh' : Nat) : Int) n sz ∧ Skip nd' kv' mh' ns ∧ Rnd w' r gr ∧
    kv'.length ≤ kv.length + key.length + val.length ∧ nd'.length ≤ nd.length + 16 ∧ kv'.length ≤ ck' ∧ ∀ k, foot p gr (.slice Kx' kv'.length ck') (.slice N' nd'.length c') k → foot p gr vk vn k ∨ w.heap.size ≤ k

theorem Rnd.kept {W W1 : World} {r gr : Nat} {row : Option Nat} (h : Rnd W r gr) (hg : W.grownBy W1 row) (h1 : some r ≠ row) (h2 : some gr ≠ row) : Rnd W1 r gr := by
  obtain ⟨a, ⟨hi, lo, b⟩, c⟩ := h
  exact ⟨(hg.block r (blk_lt a) h1).trans a, ⟨hi, lo, (hg.block gr (blk_lt b) h2).trans b⟩, c⟩
theorem Rnd.set {W : World} {r gr : Nat} (h : Rnd W r gr) {q i : Nat} (h1 : r ≠ q) (h2 : gr ≠ q) (v : Value) : Rnd (W.setCell ⟨q, i, none⟩ v) r gr :=
  h.kept (grown_set W q i v) (fun e => h1 (by injection e)) (fun e => h2 (by injection e))

structure Away (p r gr : Nat) (vk vn : Value) : Prop where
  rp : r ≠ p
  gp : gr ≠ p
  rk : some r ≠ vk.ownBlock
  gk : some gr ≠ vk.ownBlock
  rn : some r ≠ vn.ownBlock
  gn : some gr ≠ vn.ownBlock

theorem blk_type {W : World} {a b : Nat} {cs ds : Array Value} {t u : TypeId} (h : W.heap[a]? = some (.cells cs t (0, 0))) (g : W.heap[b]? = some (.cells ds u (0, 0))) (hne : t ≠ u) : a ≠ b := by
  intro e
  subst e
  rw [h] at g
  injection g with g
  injection g with _ g _
  exact hne g

theorem Tab.away {W : World} {base p r gr : Nat} {cs : Array Value} {vk vn : Value} {kv nd : List Int} (h : Tab W base p cs vk vn kv nd) (hr : Rnd W r gr) : Away p r gr vk vn := by
  obtain ⟨a, ⟨hi, lo, b⟩, c⟩ := hr
  exact ⟨blk_type a h.cell (by decide), blk_type b h.cell (by decide), own_ne h.kv a (by decide), own_ne h.kv b (by decide), own_ne h.nd a (by decide), own_ne h.nd b (by decide)⟩

structure PutSt (w : World) (base p gr : Nat) (vk0 vn0 V : Value) (r : Nat) (mh n sz : Int) (q : Nat → Int) (W : World) (cs : Array Value) (vk vn : Value) (kv nd : List Int) : Prop where
  T : Tab W base p cs vk vn kv nd
  C : Cs cs V r 1 (-1073741824) vk vn q mh n sz
  R : Rnd W r gr
  F : Fr w W (foot p gr vk0 vn0)
  Q : ∀ k, foot p gr vk vn k → foot p gr vk0 vn0 k ∨ w.heap.size ≤ k

section
variable {w W w1 : World} {base p gr r : Nat} {vk0 vn0 V vk vn v1 : Value} {mh n sz : Int} {q : Nat → Int} {cs : Array Value} {kv nd l : List Int}

theorem PutSt.cellP (h : PutSt w base p gr vk0 vn0 V r mh n sz q W cs vk vn kv nd) (i : Nat) {u : Value} (hu : cs[i]? = some u) : W.cell? ⟨p, i, none⟩ = some u ∧ W.frozen? ⟨p, i, none⟩ = false := ⟨(blk_cell h.T.cell i).trans hu, blk_frozen h.T.cell i⟩

theorem PutSt.below (h : PutSt w base p gr vk0 vn0 V r mh n sz q W cs vk vn kv nd) (hb : Below W.heap.size W w1) : PutSt w base p gr vk0 vn0 V r mh n sz q w1 cs vk vn kv nd :=
  ⟨h.T.below hb, h.C, h.R.kept (row := none) (grown_of_below hb none) (by simp) (by simp), h.F.then_ (Fr.of_below hb (fun _ => False)) (fun k hk => hk.elim), h.Q⟩

theorem PutSt.own (h : PutSt w base p gr vk0 vn0 V r mh n sz q W cs vk vn kv nd) (i : Nat) (u : Value) : Tab (W.setCell ⟨p, i, none⟩ u) base p (cs.setIfInBounds i u) vk vn kv nd ∧ Rnd (W.setCell ⟨p, i, none⟩ u) r gr ∧ Fr w (W.setCell ⟨p, i, none⟩ u) (foot p gr vk0 vn0) :=
  have ha := h.T.away h.R
  ⟨h.T.set i u, h.R.set ha.rp ha.gp u, h.F.setCell (p := ⟨p, i, none⟩) (.inl (.inl rfl)) u⟩

theorem PutSt.s22 (h : PutSt w base p gr vk0 vn0 V r mh n sz q W cs vk vn kv nd) (v : Int) : PutSt w base p gr vk0 vn0 V r v n sz q (W.setCell ⟨p, 22, none⟩ (.int .i64 v)) (cs.setIfInBounds 22 (.int .i64 v)) vk vn kv nd :=
  have ho := h.own 22 (.int .i64 v)
  ⟨ho.1, h.C.set22 v, ho.2.1, ho.2.2, h.Q⟩
theorem PutSt.s23 (h : PutSt w base p gr vk0 vn0 V r mh n sz q W cs vk vn kv nd) (v : Int) : PutSt w base p gr vk0 vn0 V r mh v sz q (W.setCell ⟨p, 23, none⟩ (.int .i64 v)) (cs.setIfInBounds 23 (.int .i64 v)) vk vn kv nd :=
  have ho := h.own 23 (.int .i64 v)
  ⟨ho.1, h.C.set23 v, ho.2.1, ho.2.2, h.Q⟩
theorem PutSt.s24 (h : PutSt w base p gr vk0 vn0 V r mh n sz q W cs vk vn kv nd) (v : Int) : PutSt w base p gr vk0 vn0 V r mh n v q (W.setCell ⟨p, 24, none⟩ (.int .i64 v)) (cs.setIfInBounds 24 (.int .i64 v)) vk vn kv nd :=
  have ho := h.own 24 (.int .i64 v)
  ⟨ho.1, h.C.set24 v, ho.2.1, ho.2.2, h.Q⟩
theorem PutSt.sq (h : PutSt w base p gr vk0 vn0 V r mh n sz q W cs vk vn kv nd) {i : Nat} (hi : i < 12) (v : Int) : PutSt w base p gr vk0 vn0 V r mh n sz (fun j => if j = i then v else q j) (W.setCell ⟨p, 10 + i, none⟩ (.int .i64 v)) (cs.setIfInBounds (10 + i) (.int .i64 v)) vk vn kv nd :=
  have ho := h.own (10 + i) (.int .i64 v)
  ⟨ho.1, h.C.setq hi v, ho.2.1, ho.2.2, h.Q⟩

theorem PutSt.kvs (h : PutSt w base p gr vk0 vn0 V r mh n sz q W cs vk vn kv nd) (ho : w1.ownsRow base 5 1 v1 l.length (nums .u8 l)) (hg : W.grownBy w1 vk.ownBlock) (hat : v1.ownBlock = vk.ownBlock ∨ ∃ b, v1.ownBlock = some b ∧ W.heap.size ≤ b) :
    PutSt w base p gr vk0 vn0 V r mh n sz q (w1.setCell ⟨p, 8, none⟩ v1) (cs.setIfInBounds 8 v1) v1 vn l nd :=
  have ha := h.T.away h.R
  ⟨(h.T.grewKv ho hg).2, h.C.set8 v1, (h.R.kept hg ha.rk ha.gk).set ha.rp ha.gp v1,
    (h.F.then_ (Fr.of_grown (S := fun k => some k = vk.ownBlock) hg (fun k hk => hk.symm)) (fun k hk => h.Q k (.inr (.inr (.inl hk))))).setCell (p := ⟨p, 8, none⟩) (.inl (.inl rfl)) v1, foot_kv h.Q hat h.F.size⟩

theorem PutSt.nds (h : PutSt w base p gr vk0 vn0 V r mh n sz q W cs vk vn kv nd) (ho : w1.ownsRow base 3 1 v1 l.length (nums .i64 l)) (hg : W.grownBy w1 vn.ownBlock) (hat : v1.ownBlock = vn.ownBlock ∨ ∃ b, v1.ownBlock = some b ∧ W.heap.size ≤ b) :
    PutSt w base p gr vk0 vn0 V r mh n sz q (w1.setCell ⟨p, 9, none⟩ v1) (cs.setIfInBounds 9 v1) vk v1 kv l :=
  have ha := h.T.away h.R
  ⟨(h.T.grewNd ho hg).2, h.C.set9 v1, (h.R.kept hg ha.rn ha.gn).set ha.rp ha.gp v1,
    (h.F.then_ (Fr.of_grown (S := fun k => some k = vn.ownBlock) hg (fun k hk => hk.symm)) (fun k hk => h.Q k (.inr (.inr (.inr hk))))).setCell (p := ⟨p, 9, none⟩) (.inl (.inl rfl)) v1, foot_nd h.Q hat h.F.size⟩

theorem PutSt.num {g c : Nat} (h : PutSt w base p gr vk0 vn0 V r mh n sz q W cs vk (.slice (some ⟨g, 0, none⟩) nd.length c) kv nd) (i : Nat) (v : Int) :
    PutSt w base p gr vk0 vn0 V r mh n sz q (W.setCell ⟨g, i, none⟩ (.int .i64 v)) cs vk (.slice (some ⟨g, 0, none⟩) nd.length c) kv (nd.set i v) :=
  have ha := h.T.away h.R
  ⟨h.T.setNd i v, h.C, h.R.set (fun e => ha.rn (by rw [e]; rfl)) (fun e => ha.gn (by rw [e]; rfl)) _, h.F.setCell (p := ⟨g, i, none⟩) (h.Q g (.inr (.inr (.inr rfl)))) _, h.Q⟩

theorem PutSt.num' {g c m : Nat} (hm : m = nd.length) (h : PutSt w base p gr vk0 vn0 V r mh n sz q W cs vk (.slice (some ⟨g, 0, none⟩) m c) kv nd) (i : Nat) (v : Int) :
    PutSt w base p gr vk0 vn0 V r mh n sz q (W.setCell ⟨g, i, none⟩ (.int .i64 v)) cs vk (.slice (some ⟨g, 0, none⟩) m c) kv (nd.set i v) := by
  subst hm
  exact h.num i v

theorem PutSt.read {g c m : Nat} (hm : m = nd.length) (h : PutSt w base p gr vk0 vn0 V r mh n sz q W cs vk (.slice (some ⟨g, 0, none⟩) m c) kv nd) {i : Nat} (hi : i < m) :
    W.cell? ⟨g, i, none⟩ = some (.int .i64 (G nd i)) ∧ W.frozen? ⟨g, i, none⟩ = false := by
  subst hm
  exact h.T.numG hi

theorem PutSt.left {kv0 nd0 key val : List Int} {Kx N : Option Addr} {ck c mhn : Nat} {ns : List Node} (h : PutSt w base p gr vk0 vn0 V r (mhn : Int) n sz q W cs (.slice Kx kv.length ck) (.slice N nd.length c) kv nd) (hS : Skip nd kv mhn ns) (h1 : kv.length ≤ kv0.length + key.length + val.length) (h2 : nd.length ≤ nd0.length + 16) (h3 : kv.length ≤ ck) :
    PutLeft w base p gr vk0 vn0 V r kv0 nd0 key val n sz ns ((W.setCell ⟨p, 6, none⟩ (.int .i32 0)).setCell ⟨p, 2, none⟩ (.int .i32 0)) :=
  have ha := h.T.away h.R
  ⟨(h.F.setCell (p := ⟨p, 6, none⟩) (.inl (.inl rfl)) _).setCell (p := ⟨p, 2, none⟩) (.inl (.inl rfl)) _, _, _, Kx, ck, N, c, kv, nd, mhn, (h.T.set 6 _).set 2 _, (h.C.set6 0).set2 0, hS, (h.R.set ha.rp ha.gp _).set ha.rp ha.gp _, h1, h2, h3, h.Q⟩

theorem PutSt.left' {kv0 nd0 key val : List Int} {Kx N : Option Addr} {ck c mhn m : Nat} {ns : List Node} (hm : m = nd.length) (h : PutSt w base p gr vk0 vn0 V r (mhn : Int) n sz q W cs (.slice Kx kv.length ck) (.slice N m c) kv nd) (hS : Skip nd kv mhn ns) (h1 : kv.length ≤ kv0.length + key.length + val.length) (h2 : nd.length ≤ nd0.length + 16) (h3 : kv.length ≤ ck) :
    PutLeft w base p gr vk0 vn0 V r kv0 nd0 key val n sz ns ((W.setCell ⟨p, 6, none⟩ (.int .i32 0)).setCell ⟨p, 2, none⟩ (.int .i32 0)) := by
  subst hm
  exact h.left hS h1 h2 h3
end

theorem own_cap {w : World} {base n m c : Nat} {e : TypeId} {A : Option Addr} {xs : List Value} (h : w.ownsRow base e 1 (.slice A n c) m xs) : n ≤ c := by
  rcases h.2 with ⟨hv, h0⟩ | ⟨g, cap, cur, hv, hb, hh, h1, _⟩
  · injection hv with _ e2 e3
    omega
  · injection hv with _ e2 e3
    omega

end Go.Proofs.YtdkkkikcigjlhaaGreatDoor.Md
