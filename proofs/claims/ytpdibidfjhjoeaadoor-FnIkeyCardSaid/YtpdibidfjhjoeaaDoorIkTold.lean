/- Internal keys: compared at the door. -/
import Derived.Test.YtpdibidfjhjoeaaDoorIkCmp
namespace Go.Proofs.YtpdibidfjhjoeaaDoor.Ik
open Go.RowKit Go.Proofs.YtpdibidfjhjoeaaDoorW.PrintWords Go.Proofs.YtpdibidfjhjoeaaDoorW.PrintMore Go.Proofs.YtpdibidfjhjoeaaDoor.Cmp Go.Proofs.YtpdibidfjhjoeaaDoor.Run Go.Proofs.YtpdibidfjhjoeaaDoor.Con Go.Proofs.YtpdibidfjhjoeaaDoor.Le Go.Proofs.YtpdibidfjhjoeaaDoor.Sep
set_option linter.unusedVariables false

theorem sign_calls (x : Int) (h : x = -1 ∨ x = 0 ∨ x = 1) (w : World) :
    Calls Tryd.prog 27 #[.int .i64 x] w fun e w' => e = .returned (.int .i64 x) ∧ Below w.heap.size w w' := by
  go_enter Tryd.func27, Tryd.ntmps27
  rcases h with h | h | h <;> subst h <;> (go_wp2; go_ret; exact ⟨rfl, Below.refl _ _⟩)

set_option maxHeartbeats 1600000 in
set_option maxRecDepth 100000 in
theorem DoorCompare_calls {w : World} {A B : Option Addr} {n c m d : Nat} {l k : List Int} (h : Kd.C (Kd.int .u8) w A n l) (g : Kd.C (Kd.int .u8) w B m k) (hl : Byt l) (hk : Byt k) (hn : 8 ≤ n) (hm : 8 ≤ m) (hc : n ≤ c) (hd : m ≤ d) :
    Calls Tryd.prog 33 #[.slice A n c, .slice B m d] w fun e w' => e = .returned (.int .i64 (icmp l k)) ∧ Below w.heap.size w w' := by
  have hC := fun (w1 : World) (p : Addr) (hp : w1.cell? p = some dflt) (hb1 : Below w.heap.size w w1) => iCompare_calls hp (Kd.C_below h hb1) (Kd.C_below g hb1) hl hk hn hm hc hd
  clear h g hl hk
  generalize icmp l k = r at *
  go_enter Tryd.func33, Tryd.ntmps33
  go_wp2_with fail
  refine (doorOrder_calls w).mono ?_
  rintro e w1 ⟨p, rfl, hp, hb1⟩
  have HP := Lib.hid hp
  clear hp
  go_wp2_with fail
  refine (hC w1 p HP.out hb1).mono ?_
  rintro e w2 ⟨rfl, hb2⟩
  go_wp2
  go_ret
  exact ⟨rfl, below_then hb1 hb1.size hb2⟩

set_option maxHeartbeats 1600000 in
set_option maxRecDepth 100000 in
theorem IkeyCompare_calls {w : World} {A B : Option Addr} {n c m d : Nat} {l k : List Int} (h : Kd.C (Kd.int .u8) w A n l) (g : Kd.C (Kd.int .u8) w B m k) (hl : Byt l) (hk : Byt k) (hn : 8 ≤ n) (hm : 8 ≤ m) (hc : n ≤ c) (hd : m ≤ d) :
    Calls Tryd.prog 19 #[.slice A n c, .slice B m d] w fun e w' => e = .returned (.tuple #[.int .i64 (icmp l k), .bool true]) ∧ Below w.heap.size w w' := by
  have h3 := Lib.hid (icmp_three l k)
  have hD := Lib.hid (DoorCompare_calls h g hl hk hn hm hc hd)
  clear h g hl hk
  generalize icmp l k = r at *
  go_enter Tryd.func19, Tryd.ntmps19
  go_wp2_with fail
  refine hD.out.mono ?_
  rintro e w1 ⟨rfl, hb1⟩
  go_wp2_with fail
  refine (sign_calls r h3.out w1).mono ?_
  rintro e w2 ⟨rfl, hb2⟩
  go_wp2
  go_ret2
  exact ⟨rfl, below_then hb1 hb1.size hb2⟩

end Go.Proofs.YtpdibidfjhjoeaaDoor.Ik
