/- Batches: the reader's steps at a place in the bytes, as goleveldb's decoder takes them. -/
import Derived.Test.YtddjenmengipkaaBtClo
namespace Go.Proofs.Ytddjenmengipkaa.Bt
open Go.RowKit Go.Proofs.YtddjenmengipkaaW.PrintWords Go.Proofs.YtddjenmengipkaaW.PrintMore Go.Proofs.Ytddjenmengipkaa.PFnBatchLoads Go.Proofs.Ytddjenmengipkaa.Cmp
set_option linter.unusedVariables false

theorem sz_none {l : List Int} (h : uvI l = none) : szI l = none := by
  unfold szI
  rw [h]

theorem sz_over {l : List Int} {p m : Nat} {x : Int} (h : uvI (l.drop p) = some (x, m)) (hm : p + m ≤ l.length) (hx : (l.length : Int) < (p : Int) + m + x) : szI (l.drop p) = none := by
  unfold szI
  rw [h]
  simp only [List.length_drop]
  rw [if_pos (by omega)]

theorem sz_fit {l : List Int} {p m x : Nat} (h : uvI (l.drop p) = some ((x : Int), m)) (hx : p + m + x ≤ l.length) : szI (l.drop p) = some ((l.drop (p + m)).take x, l.drop (p + m + x)) := by
  unfold szI
  rw [h]
  simp only [List.length_drop]
  rw [if_neg (by omega), Int.toNat_natCast, List.drop_drop, List.drop_drop, Nat.add_assoc p m x]

theorem rd_step {l : List Int} {o f : Nat} (h : o < l.length) : rdI (f + 1) (l.drop o) = match szI (l.drop (o + 1)) with
    | none => none
    | some p => if 1 < l.getD o 0 then none else if l.getD o 0 = 1 then match szI p.2 with
        | none => none
        | some q => (rdI f q.2).map ((false, p.1, q.1) :: ·)
      else (rdI f p.2).map ((true, p.1, []) :: ·) := by
  rw [drop_at l o h]
  rfl

theorem rd_bad {l : List Int} {o f : Nat} (h : o < l.length) (hb : 1 < l.getD o 0) : rdI (f + 1) (l.drop o) = none := by
  rw [rd_step h]
  cases szI (l.drop (o + 1)) with
  | none => rfl
  | some p => simp only [if_pos hb]

theorem rd_none {l : List Int} {o f : Nat} (h : o < l.length) (hs : szI (l.drop (o + 1)) = none) : rdI (f + 1) (l.drop o) = none := by
  rw [rd_step h, hs]

theorem rd_del {l : List Int} {o f e : Nat} {k : List Int} (h : o < l.length) (hb : l.getD o 0 = 0) (hs : szI (l.drop (o + 1)) = some (k, l.drop e)) : rdI (f + 1) (l.drop o) = (rdI f (l.drop e)).map ((true, k, []) :: ·) := by
  rw [rd_step h, hs]
  simp only [hb]
  rw [if_neg (by decide), if_neg (by decide)]

theorem rd_put {l : List Int} {o f e e2 : Nat} {k v : List Int} (h : o < l.length) (hb : l.getD o 0 = 1) (hs : szI (l.drop (o + 1)) = some (k, l.drop e)) (hs2 : szI (l.drop e) = some (v, l.drop e2)) : rdI (f + 1) (l.drop o) = (rdI f (l.drop e2)).map ((false, k, v) :: ·) := by
  rw [rd_step h, hs]
  simp only [hb]
  rw [if_neg (by decide), if_pos True.intro, hs2]

theorem rd_put_none {l : List Int} {o f e : Nat} {k : List Int} (h : o < l.length) (hb : l.getD o 0 = 1) (hs : szI (l.drop (o + 1)) = some (k, l.drop e)) (hs2 : szI (l.drop e) = none) : rdI (f + 1) (l.drop o) = none := by
  rw [rd_step h, hs]
  simp only [hb]
  rw [if_neg (by decide), if_pos True.intro, hs2]

theorem rd_end {l : List Int} {o f : Nat} (h : l.length ≤ o) : rdI f (l.drop o) = some [] := by
  rw [List.drop_eq_nil_of_le h]
  cases f <;> rfl

end Go.Proofs.Ytddjenmengipkaa.Bt
