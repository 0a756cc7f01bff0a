/- FnSeparator: the law's walk, put together. -/
import Derived.Test.YtpdibidfjhjoeaaDoorSepLaw
namespace Go.Proofs.YtpdibidfjhjoeaaDoor.Sep
open Go.RowKit Go.Proofs.YtpdibidfjhjoeaaDoorW.PrintWords Go.Proofs.YtpdibidfjhjoeaaDoor.Cmp Go.Proofs.YtpdibidfjhjoeaaDoor.Run Go.Proofs.YtpdibidfjhjoeaaDoor.Con Go.Proofs.YtpdibidfjhjoeaaDoor.SepPlain
set_option linter.unusedVariables false

theorem sep_walk (D : Option Addr) (cd : Nat) (ds : List Int) (A : Option Addr) (ca : Nat) (la : List Int) (B : Option Addr) (cb : Nat) (lb : List Int) (w : World)
    (hd : Kd.C (Kd.int .u8) w D ds.length ds) (hcd : ds.length ≤ cd) (_bd : Byt ds) (_md : ds.length ≤ 140737488351232) (ha : Kd.C (Kd.int .u8) w A la.length la) (hca : la.length ≤ ca) (ba : Byt la) (_ma : la.length ≤ 140737488351232)
    (hb : Kd.C (Kd.int .u8) w B lb.length lb) (hcb : lb.length ≤ cb) (bb : Byt lb) (_mb : lb.length ≤ 140737488351232) :
    Calls Tryd.prog 3 #[.slice D ds.length cd, .slice A la.length ca, .slice B lb.length cb] w fun e w' => e = .returned (.bool true) ∧ Below w.heap.size w w' := by
  by_cases gd : ds.length ≤ 2147483647
  · by_cases ga : la.length ≤ 2147483647
    · by_cases gb : lb.length ≤ 2147483647
      · cases hs : decide (cmpI lb la < 0) with
        | false =>
          cases hu : succI lb with
          | none =>
            cases ht : decide (cmpI la lb < 0) with
            | false => exact law_keep_none_no hd hcd ha hca ba hb hcb bb gd ga gb hs hu ht
            | true =>
              cases hp : sepI la lb with
              | none => exact law_keep_none_none hd hcd ha hca ba hb hcb bb gd ga gb hs hu ht hp
              | some sp => exact law_keep_none_some hd hcd ha hca ba hb hcb bb gd ga gb hs hu ht hp
          | some su =>
            cases ht : decide (cmpI la lb < 0) with
            | false => exact law_keep_some_no hd hcd ha hca ba hb hcb bb gd ga gb hs hu ht
            | true =>
              cases hp : sepI la lb with
              | none => exact law_keep_some_none hd hcd ha hca ba hb hcb bb gd ga gb hs hu ht hp
              | some sp => exact law_keep_some_some hd hcd ha hca ba hb hcb bb gd ga gb hs hu ht hp
        | true =>
          cases hu : succI la with
          | none =>
            cases ht : decide (cmpI lb la < 0) with
            | false => exact law_swap_none_no hd hcd ha hca ba hb hcb bb gd ga gb hs hu ht
            | true =>
              cases hp : sepI lb la with
              | none => exact law_swap_none_none hd hcd ha hca ba hb hcb bb gd ga gb hs hu ht hp
              | some sp => exact law_swap_none_some hd hcd ha hca ba hb hcb bb gd ga gb hs hu ht hp
          | some su =>
            cases ht : decide (cmpI lb la < 0) with
            | false => exact law_swap_some_no hd hcd ha hca ba hb hcb bb gd ga gb hs hu ht
            | true =>
              cases hp : sepI lb la with
              | none => exact law_swap_some_none hd hcd ha hca ba hb hcb bb gd ga gb hs hu ht hp
              | some sp => exact law_swap_some_some hd hcd ha hca ba hb hcb bb gd ga gb hs hu ht hp
      · clear hd ha hb
        go_enter Tryd.func3, Tryd.ntmps3
        go_wp2
        go_ret
        exact ⟨rfl, by go_grown⟩
    · clear hd ha hb
      go_enter Tryd.func3, Tryd.ntmps3
      go_wp2
      go_ret
      exact ⟨rfl, by go_grown⟩
  · clear hd ha hb
    go_enter Tryd.func3, Tryd.ntmps3
    go_wp2
    go_ret
    exact ⟨rfl, by go_grown⟩

end Go.Proofs.YtpdibidfjhjoeaaDoor.Sep
