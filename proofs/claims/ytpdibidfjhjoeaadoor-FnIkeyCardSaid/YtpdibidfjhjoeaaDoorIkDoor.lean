/- Internal keys: the doors: made, told. -/
import Derived.Test.YtpdibidfjhjoeaaDoorIkMake
import Derived.Test.YtpdibidfjhjoeaaDoorSepImpl
namespace Go.Proofs.YtpdibidfjhjoeaaDoor.Ik
open Go.RowKit Go.Proofs.YtpdibidfjhjoeaaDoorW.PrintWords Go.Proofs.YtpdibidfjhjoeaaDoorW.PrintMore Go.Proofs.YtpdibidfjhjoeaaDoor.Cmp Go.Proofs.YtpdibidfjhjoeaaDoor.Run Go.Proofs.YtpdibidfjhjoeaaDoor.Con Go.Proofs.YtpdibidfjhjoeaaDoor.Le Go.Proofs.YtpdibidfjhjoeaaDoor.Sep
set_option linter.unusedVariables false

theorem cut_of {T : Nat} (hT : Tryd.prog.underlying T = some (.slice 5)) {X : Option Addr} {n c m : Nat} (hm : m ≤ n) : ∃ A' : Option Addr, (∀ W : World, (Instr.slice T (.slice X n c) (some (.int .i64 (m : Int))) none none).run Tryd.prog W = .ok (.slice A' (n - m) (c - m)) W) ∧
    ∀ (w : World) (xs : List Int), n ≤ c → Kd.C (Kd.int .u8) w X n xs → Kd.C (Kd.int .u8) w A' (n - m) (xs.drop m) := by
  obtain ⟨i0, hi, hzz⟩ := Option.map_eq_some_iff.1 info_u8
  simp only [Prod.mk.injEq] at hzz
  obtain ⟨A', h1, h2⟩ := print_cut (P := Tryd.prog) T 5 .i64 hT hi hzz.2.1 X n c m hm
  exact ⟨A', h1, fun w xs hc hx => ints_C (h2 w .u8 xs hc (C_ints hx))⟩

theorem C_some {w : World} {A : Option Addr} {n : Nat} {l : List Int} (h : Kd.C (Kd.int .u8) w A n l) (hn : 0 < n) : ∃ a, A = some a := by
  obtain ⟨_, _, r3⟩ := C_ints h
  obtain ⟨a, ha, _⟩ := r3 hn
  exact ⟨a, ha⟩

set_option maxHeartbeats 1600000 in
set_option maxRecDepth 100000 in
theorem DoorKey_calls {w : World} {K : Option Addr} {c : Nat} {key : List Int} {seq kt : Int} (h : Kd.C (Kd.int .u8) w K key.length key) (hl : key.length ≤ 2147483647)
    (s0 : 0 ≤ seq) (s1 : seq ≤ 72057594037927935) (k0 : 0 ≤ kt) (k1 : kt ≤ 1) :
    Calls Tryd.prog 29 #[.slice K key.length c, .int .u64 seq, .int .i64 kt] w (OneRow w (ikey key seq kt)) := by
  have HK := Lib.hid h
  clear h
  have hw : Hid (IntKind.u64.wrap kt = kt) := u64_wrap_id _ k0 (by omega)
  go_enter Tryd.func29, Tryd.ntmps29
  go_wp2_with (go_at_call 38; refine (make_calls HK.out hl s0 s1 k0 k1).mono ?_; rintro e w1 ⟨A1, c1, rfl, hk1, hc1, hb1⟩)
  generalize ikey key seq kt = l at *
  go_ret
  exact ⟨A1, c1, rfl, hk1, hc1, hb1⟩

set_option maxHeartbeats 1600000 in
set_option maxRecDepth 100000 in
theorem IkeyMake_calls {w : World} {K : Option Addr} {c : Nat} {key : List Int} {seq kt : Int} (h : Kd.C (Kd.int .u8) w K key.length key) (hl : key.length ≤ 2147483647)
    (s0 : 0 ≤ seq) (s1 : seq ≤ 72057594037927935) (k0 : 0 ≤ kt) (k1 : kt ≤ 1) :
    Calls Tryd.prog 15 #[.slice K key.length c, .int .u64 seq, .int .i64 kt] w (TwoRow w (ikey key seq kt) true) := by
  have HK := Lib.hid h
  clear h
  go_enter Tryd.func15, Tryd.ntmps15
  go_wp2_with (go_at_call 29; refine (DoorKey_calls HK.out hl s0 s1 k0 k1).mono ?_; rintro e w1 ⟨A1, c1, rfl, hk1, hc1, hb1⟩)
  generalize ikey key seq kt = l at *
  go_ret2
  exact ⟨A1, c1, rfl, hk1, hc1, hb1⟩

set_option maxHeartbeats 1600000 in
set_option maxRecDepth 100000 in
theorem assert_calls {w : World} {a : Addr} {n c : Nat} (h8 : 8 ≤ n) :
    Calls Tryd.prog 55 #[.slice (some a) n c] w fun e w' => e = .returned (.tuple #[]) ∧ Below w.heap.size w w' := by
  have hnil : ∀ (wx : World), (binOp .eql 69 (.slice (some a) n c) (.slice none 0 0)).run Tryd.prog wx = .ok (.bool false) wx := fun wx => Lib.run_eql_slice_nil wx 69 5 (some a) n c 0 0 Tryd.underlying69
  go_enter Tryd.func55, Tryd.ntmps55
  go_wp2
  go_end0
  exact ⟨rfl, by go_grown⟩

set_option maxHeartbeats 1600000 in
set_option maxRecDepth 100000 in
theorem ukey_calls {w : World} {A : Option Addr} {n c : Nat} {l : List Int} (h : Kd.C (Kd.int .u8) w A n l) (h8 : 8 ≤ n) (hc : n ≤ c) :
    Calls Tryd.prog 50 #[.slice A n c] w fun e w' => e = .returned (.slice A (n - 8) c) ∧ Below w.heap.size w w' := by
  obtain ⟨a, rfl⟩ := C_some h (by omega)
  have hm := Kd.C_max h
  clear h
  have e8 : wrap64 ((n : Int) - 8) = (n : Int) - 8 := by unfold wrap64; omega
  have e9 : ((n : Int) - 8).toNat = n - 8 := by omega
  go_enter Tryd.func50, Tryd.ntmps50
  go_wp2_with (go_at_call 55; refine (assert_calls h8).mono ?_; rintro e w1 ⟨rfl, hb1⟩)
  go_ret
  exact ⟨by first | rfl | (refine ret_v ?_; congr 1), by first | exact hb1 | go_grown⟩

theorem byt_drop {l : List Int} (h : Byt l) (m : Nat) : Byt (l.drop m) := fun x hx => h x (List.mem_of_mem_drop hx)

set_option maxHeartbeats 1600000 in
set_option maxRecDepth 100000 in
theorem num_calls {w : World} {A : Option Addr} {n c : Nat} {l : List Int} (h : Kd.C (Kd.int .u8) w A n l) (hb : Byt l) (h8 : 8 ≤ n) (hc : n ≤ c) :
    Calls Tryd.prog 51 #[.slice A n c] w fun e w' => e = .returned (.int .u64 (leN (l.drop (n - 8)))) ∧ Below w.heap.size w w' := by
  obtain ⟨a, rfl⟩ := C_some h (by omega)
  have hm := Kd.C_max h
  obtain ⟨m, em⟩ : ∃ m, m = n - 8 := ⟨_, rfl⟩
  obtain ⟨A', hcut, hcs⟩ := cut_of Tryd.underlying69 (X := some a) (n := n) (c := c) (m := m) (by omega)
  have e8 : wrap64 ((n : Int) - 8) = (m : Int) := by unfold wrap64; omega
  have e8' : IntKind.i64.wrap ((n : Int) - 8) = (m : Int) := by rw [IntWalk.i64_in _ (by omega)]; omega
  have en : n - m = 8 := by omega
  rw [en] at hcut hcs
  have HC := Lib.hid (hcs w l hc h)
  have HB := Lib.hid (byt_drop hb m)
  rw [← em]
  clear em en h hcs hb
  go_enter Tryd.func51, Tryd.ntmps51
  go_wp2_with (first | (go_at_call 55; refine (assert_calls h8).mono ?_; rintro e w1 ⟨rfl, hb1⟩))
  go_region_held3 (fun _ => True) (trivial)
    (first
      | (go_at_call 47; refine (Uint64_calls (Kd.C_below HC.out hb1.drew) HB.out).mono ?_; rintro e w2 ⟨rfl, hb2⟩))
  go_wp2
  generalize leN (l.drop m) = r
  go_ret
  exact ⟨rfl, below_then hb1.drew hb1.drew.size hb2⟩

end Go.Proofs.YtpdibidfjhjoeaaDoor.Ik
