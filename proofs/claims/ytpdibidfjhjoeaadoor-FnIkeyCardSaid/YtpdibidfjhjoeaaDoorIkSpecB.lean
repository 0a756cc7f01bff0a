/- The reference's functions of internal keys, as contracts. -/
import Derived.Test.YtpdibidfjhjoeaaDoorIkPure
import Derived.Test.YtpdibidfjhjoeaaDoorIkLawA
import Derived.Lib.QuietBelow
namespace Go.Proofs.YtpdibidfjhjoeaaDoor.Ik
open Go.RowKit Go.Sort Go.Proofs.YtpdibidfjhjoeaaDoorW.PrintWords Go.Proofs.YtpdibidfjhjoeaaDoorW.PrintMore Go.Proofs.YtpdibidfjhjoeaaDoor.Cmp Go.Proofs.YtpdibidfjhjoeaaDoor.Run Go.Proofs.YtpdibidfjhjoeaaDoor.Con Go.Proofs.YtpdibidfjhjoeaaDoor.Le Go.Proofs.YtpdibidfjhjoeaaDoor.Sep Go.Proofs.YtpdibidfjhjoeaaDoor.PFnIkeys
set_option linter.unusedVariables false

theorem SpecCompare_r {w : World} {A B : Option Addr} {n c m d : Nat} {l k : List Int} (r : Int) (hr : cmpI l k = r) (h : Kd.C (Kd.int .u8) w A n l) (hc : n ≤ c) (g : Kd.C (Kd.int .u8) w B m k) (hd : m ≤ d) :
    Calls Tryd.prog 30 #[.slice A n c, .slice B m d] w fun e w' => e = .returned (.int .i64 r) ∧ Below w.heap.size w w' := by
  subst hr
  obtain rfl := Kd.C_len h
  obtain rfl := Kd.C_len g
  refine (spec_BytesCompare.calls (2 * l.length + 2) A c l B d k _ w h hc g hd (IkPure.bytesCompare l k (Kd.C_max h) _ (by omega))).mono ?_
  rintro e w' ⟨rfl, hw⟩
  exact ⟨rfl, hw.below⟩

theorem SpecSame_r {w : World} {A B : Option Addr} {n c m d : Nat} {l k : List Int} (r : Bool) (hr : decide (l = k) = r) (h : Kd.C (Kd.int .u8) w A n l) (hc : n ≤ c) (g : Kd.C (Kd.int .u8) w B m k) (hd : m ≤ d) :
    Calls Tryd.prog 16 #[.slice A n c, .slice B m d] w fun e w' => e = .returned (.bool r) ∧ Below w.heap.size w w' := by
  subst hr
  obtain rfl := Kd.C_len h
  obtain rfl := Kd.C_len g
  refine (spec_BytesSame.calls (2 * l.length + 2) A c l B d k _ w h hc g hd (IkPure.bytesSame l k (Kd.C_max h) _ (by omega))).mono ?_
  rintro e w' ⟨rfl, hw⟩
  exact ⟨rfl, hw.below⟩

theorem SpecLittleOf_r {w : World} {A : Option Addr} {c : Nat} {l : List Int} (r : Int) (hr : leN l = r) (h : Kd.C (Kd.int .u8) w A 8 l) (hb : Byt l) (hc : 8 ≤ c) :
    Calls Tryd.prog 34 #[.slice A 8 c] w fun e w' => e = .returned (.int .u64 r) ∧ Below w.heap.size w w' := by
  subst hr
  have e8 := Kd.C_len h
  have z := spec_LittleOf.calls 9 A c l _ w (by rw [e8]; exact h) (by omega) (IkPure.littleOf l e8 hb 0)
  rw [e8] at z
  refine z.mono ?_
  rintro e w' ⟨rfl, hw⟩
  exact ⟨rfl, hw.below⟩

theorem SpecIkey_r {w : World} {K : Option Addr} {c : Nat} {key : List Int} {seq kt : Int} (h : Kd.C (Kd.int .u8) w K key.length key) (hc : key.length ≤ c) (hl : key.length ≤ 2147483647)
    (s0 : 0 ≤ seq) (s1 : seq ≤ 72057594037927935) (k0 : 0 ≤ kt) (k1 : kt ≤ 1) :
    Calls Tryd.prog 17 #[.slice K key.length c, .int .u64 seq, .int .i64 kt] w (OneRow w (ikey key seq kt)) := by
  refine (spec_Ikey.calls 9 K c key seq kt _ w h hc (IkPure.ikeySpec key seq kt hl s0 s1 k0 k1 9 (by omega))).mono ?_
  rintro e w' ⟨v, rfl, hR, hw⟩
  obtain ⟨A, c1, rfl, hr, hc1⟩ := own_C (Kd.own_of_R hR)
  exact ⟨A, c1, rfl, hr, hc1, hw⟩

set_option maxHeartbeats 1600000 in
set_option maxRecDepth 100000 in
theorem SpecIkeyCompare_calls {w : World} {A B : Option Addr} {n c m d : Nat} {l k : List Int} (h : Kd.C (Kd.int .u8) w A n l) (g : Kd.C (Kd.int .u8) w B m k) (hl : Byt l) (hk : Byt k) (hn : 8 ≤ n) (hm : 8 ≤ m) (hc : n ≤ c) (hd : m ≤ d) :
    Calls Tryd.prog 20 #[.slice A n c, .slice B m d] w fun e w' => e = .returned (.int .i64 (icmp l k)) ∧ Below w.heap.size w w' := by
  obtain ⟨a, rfl⟩ := C_some h (by omega)
  obtain ⟨b, rfl⟩ := C_some g (by omega)
  have el := Kd.C_len h
  have ek := Kd.C_len g
  have mn := Kd.C_max h
  have mm := Kd.C_max g
  obtain ⟨p, ep⟩ : ∃ p, p = n - 8 := ⟨_, rfl⟩
  obtain ⟨q, eq⟩ : ∃ q, q = m - 8 := ⟨_, rfl⟩
  obtain ⟨A', hcutA, hcsA⟩ := cut_of Tryd.underlying22 (X := some a) (n := n) (c := c) (m := p) (by omega)
  obtain ⟨B', hcutB, hcsB⟩ := cut_of Tryd.underlying22 (X := some b) (n := m) (c := d) (m := q) (by omega)
  have a8 : wrap64 ((n : Int) - 8) = (p : Int) := by unfold wrap64; omega
  have a8' : IntKind.i64.wrap ((n : Int) - 8) = (p : Int) := by rw [IntWalk.i64_in _ (by omega)]; omega
  have b8 : wrap64 ((m : Int) - 8) = (q : Int) := by unfold wrap64; omega
  have b8' : IntKind.i64.wrap ((m : Int) - 8) = (q : Int) := by rw [IntWalk.i64_in _ (by omega)]; omega
  have en : n - p = 8 := by omega
  have em : m - q = 8 := by omega
  have pc : p ≤ c := by omega
  have qd : q ≤ d := by omega
  have c8 : 8 ≤ c - p := by omega
  have d8 : 8 ≤ d - q := by omega
  rw [en] at hcutA hcsA
  rw [em] at hcutB hcsB
  have HA := hcsA w l hc h
  have HB := hcsB w k hd g
  have T1 := C_head h p (by omega)
  have T2 := C_head g q (by omega)
  have hi : Hid (icmp l k = if cmpI (l.take p) (k.take q) = 0 then if leN (l.drop p) > leN (k.drop q) then -1 else if leN (l.drop p) < leN (k.drop q) then 1 else 0 else cmpI (l.take p) (k.take q)) := by
    unfold icmp; rw [el, ek, ← ep, ← eq]; rfl
  have n0 := leN_lo (byt_drop hl p)
  have n1 := leN_lo (byt_drop hk q)
  have hU := fun (w2 : World) (hb : Below w.heap.size w w2) => SpecCompare_r (c := c) (d := d) _ rfl (Kd.C_below T1 hb) pc (Kd.C_below T2 hb) qd
  have hN1 := fun (w2 : World) (hb : Below w.heap.size w w2) => SpecLittleOf_r (c := c - p) _ rfl (Kd.C_below HA hb) (byt_drop hl p) c8
  have hN2 := fun (w2 : World) (hb : Below w.heap.size w w2) => SpecLittleOf_r (c := d - q) _ rfl (Kd.C_below HB hb) (byt_drop hk q) d8
  have HW : ∀ e os, Hid (Below w.heap.size w (grow (redrawn w e) os)) := fun e os => below_regrown w e os
  clear ep eq en em el ek HA HB hcsA hcsB h g T1 T2 hl hk
  generalize cmpI (l.take p) (k.take q) = u at *
  generalize leN (l.drop p) = x at *
  generalize leN (k.drop q) = y at *
  by_cases hu : u = 0
  · subst hu
    by_cases h1 : x > y
    · have r1 := Lib.hid (hi.out.trans (by rw [if_pos rfl, if_pos h1]))
      go_enter Tryd.func20, Tryd.ntmps20
      go_wp2_with fail
      refine wp_region_quiet_below (by kernel_rfl) (by kernel_rfl) ?_
      repeat (go_big_quiet_step (first
          | (go_at_call 30; with_reducible exact Calls.regrown_of (hU _ (HW _ _).out))))
      refine wpQuiet_nil ?_
      intro w1 hw'
      have hb1 : Below w.heap.size w w1 := by
        obtain ⟨⟨dq, osq⟩, hw''⟩ := hw'
        subst hw''
        exact (HW _ _).out
      clear hw'
      have HW1 : ∀ e os, Hid (Below w.heap.size w (grow (redrawn w1 e) os)) := fun e os => below_then hb1 hb1.size (below_regrown w1 e os)
      go_wp2_with fail
      refine wp_region_quiet_below (by kernel_rfl) (by kernel_rfl) ?_
      repeat (go_big_quiet_step (first
          | (go_at_call 34; first | (with_reducible exact Calls.regrown_of (hN1 _ (HW1 _ _).out)) | (with_reducible exact Calls.regrown_of (hN2 _ (HW1 _ _).out)))))
      refine wpQuiet_nil ?_
      intro w2 hw2'
      have hb2 : Below w.heap.size w w2 := by
        obtain ⟨⟨dq, osq⟩, hw''⟩ := hw2'
        subst hw''
        exact (HW1 _ _).out
      clear hw2'
      go_wp2
      go_ret
      exact ⟨ret_int r1.out.symm, hb2⟩
    · by_cases h2 : x < y
      · have r1 := Lib.hid (hi.out.trans (by rw [if_pos rfl, if_neg h1, if_pos h2]))
        go_enter Tryd.func20, Tryd.ntmps20
        go_wp2_with fail
        refine wp_region_quiet_below (by kernel_rfl) (by kernel_rfl) ?_
        repeat (go_big_quiet_step (first
            | (go_at_call 30; with_reducible exact Calls.regrown_of (hU _ (HW _ _).out))))
        refine wpQuiet_nil ?_
        intro w1 hw'
        have hb1 : Below w.heap.size w w1 := by
          obtain ⟨⟨dq, osq⟩, hw''⟩ := hw'
          subst hw''
          exact (HW _ _).out
        clear hw'
        have HW1 : ∀ e os, Hid (Below w.heap.size w (grow (redrawn w1 e) os)) := fun e os => below_then hb1 hb1.size (below_regrown w1 e os)
        go_wp2_with fail
        refine wp_region_quiet_below (by kernel_rfl) (by kernel_rfl) ?_
        repeat (go_big_quiet_step (first
            | (go_at_call 34; first | (with_reducible exact Calls.regrown_of (hN1 _ (HW1 _ _).out)) | (with_reducible exact Calls.regrown_of (hN2 _ (HW1 _ _).out)))))
        refine wpQuiet_nil ?_
        intro w2 hw2'
        have hb2 : Below w.heap.size w w2 := by
          obtain ⟨⟨dq, osq⟩, hw''⟩ := hw2'
          subst hw''
          exact (HW1 _ _).out
        clear hw2'
        go_wp2
        go_ret
        exact ⟨ret_int r1.out.symm, hb2⟩
      · have r1 := Lib.hid (hi.out.trans (by rw [if_pos rfl, if_neg h1, if_neg h2]))
        go_enter Tryd.func20, Tryd.ntmps20
        go_wp2_with fail
        refine wp_region_quiet_below (by kernel_rfl) (by kernel_rfl) ?_
        repeat (go_big_quiet_step (first
            | (go_at_call 30; with_reducible exact Calls.regrown_of (hU _ (HW _ _).out))))
        refine wpQuiet_nil ?_
        intro w1 hw'
        have hb1 : Below w.heap.size w w1 := by
          obtain ⟨⟨dq, osq⟩, hw''⟩ := hw'
          subst hw''
          exact (HW _ _).out
        clear hw'
        have HW1 : ∀ e os, Hid (Below w.heap.size w (grow (redrawn w1 e) os)) := fun e os => below_then hb1 hb1.size (below_regrown w1 e os)
        go_wp2_with fail
        refine wp_region_quiet_below (by kernel_rfl) (by kernel_rfl) ?_
        repeat (go_big_quiet_step (first
            | (go_at_call 34; first | (with_reducible exact Calls.regrown_of (hN1 _ (HW1 _ _).out)) | (with_reducible exact Calls.regrown_of (hN2 _ (HW1 _ _).out)))))
        refine wpQuiet_nil ?_
        intro w2 hw2'
        have hb2 : Below w.heap.size w w2 := by
          obtain ⟨⟨dq, osq⟩, hw''⟩ := hw2'
          subst hw''
          exact (HW1 _ _).out
        clear hw2'
        go_wp2
        go_ret
        exact ⟨ret_int r1.out.symm, hb2⟩
  · have r1 := Lib.hid (hi.out.trans (by rw [if_neg hu]))
    have z1 : (u != 0) = true := by rw [bne_iff_ne]; exact hu
    clear hu
    go_enter Tryd.func20, Tryd.ntmps20
    go_wp2_with fail
    refine wp_region_quiet_below (by kernel_rfl) (by kernel_rfl) ?_
    repeat (go_big_quiet_step (first
        | (go_at_call 30; with_reducible exact Calls.regrown_of (hU _ (HW _ _).out))))
    refine wpQuiet_nil ?_
    intro w1 hw'
    have hb1 : Below w.heap.size w w1 := by
      obtain ⟨⟨dq, osq⟩, hw''⟩ := hw'
      subst hw''
      exact (HW _ _).out
    clear hw'
    go_wp2
    go_ret
    exact ⟨ret_int r1.out.symm, hb1⟩

end Go.Proofs.YtpdibidfjhjoeaaDoor.Ik
