/- What the library's body-less comparison of bytes tells of two slices that are read. Written for the seat YtpdibidfjhjoeaaDoor. -/
import Derived.Test.YtpdibidfjhjoeaaDoorWMore
import Derived.Test.YtpdibidfjhjoeaaDoorCmp
import Derived.Lib.Bytealg
import Derived.WalkKit
import Derived.Below
namespace Go.Proofs.YtpdibidfjhjoeaaDoor.Run
open Go.RowKit Go.Proofs.YtpdibidfjhjoeaaDoorW.PrintWords Go.Proofs.YtpdibidfjhjoeaaDoor.Cmp

def u8s (l : List Int) : List UInt8 := l.map fun x => x.toNat.toUInt8

theorem add_zero (a : Addr) : a.add 0 = a := by simp [Addr.add]

theorem run_loadBytes {P : Program} (w : World) : ∀ (n : Nat) (a : Addr) (l : List Int) (acc : ByteArray), l.length = n → (∀ j, j < n → w.cell? (a.add j) = some (.int .u8 (l.getD j 0))) →
    (Extern.Bytes.loadBytes a n acc).run P w = .ok ⟨acc.data ++ (u8s l).toArray⟩ w
  | 0, a, l, acc, hl, _ => by
    obtain rfl := List.eq_nil_of_length_eq_zero hl
    simp [Extern.Bytes.loadBytes, u8s]
  | n + 1, a, l, acc, hl, h => by
    cases l with
    | nil => simp at hl
    | cons x t =>
      have h0 := h 0 (by omega)
      rw [add_zero] at h0
      have ih := run_loadBytes (P := P) w n (a.add 1) t (acc.push x.toNat.toUInt8) (by simpa using hl) (fun j hj => by
        rw [add_add, Nat.add_comm]
        have := h (j + 1) (by omega)
        simpa using this)
      simp only [List.getD_cons_zero] at h0
      have step : (Extern.Bytes.loadBytes a (n + 1) acc).run P w = (Extern.Bytes.loadBytes (a.add 1) n (acc.push x.toNat.toUInt8)).run P w := by
        simp [Extern.Bytes.loadBytes, h0]
      rw [step, ih]
      simp [u8s, ByteArray.push]

theorem run_bytesOf {P : Program} {w : World} {A : Option Addr} {n c : Nat} {l : List Int} (h : Kd.C (Kd.int .u8) w A n l) :
    (Extern.Bytes.bytesOf (.slice A n c)).run P w = .ok ⟨(u8s l).toArray⟩ w := by
  have hr := Kd.reads_of_C (d := (0 : Int)) h
  obtain ⟨h1, h2, h3⟩ := hr
  cases A with
  | none =>
    have : n = 0 := by
      rcases Nat.eq_zero_or_pos n with e | e
      · exact e
      · obtain ⟨ad, hd, _⟩ := h3 e
        cases hd
    subst this
    obtain rfl := List.eq_nil_of_length_eq_zero h1
    simp [Extern.Bytes.bytesOf, u8s, ByteArray.empty, ByteArray.emptyWithCapacity]
    rfl
  | some a =>
    simp only [Extern.Bytes.bytesOf]
    rw [run_loadBytes w n a l .empty h1 (fun j hj => by
      obtain ⟨ad, hd, hc⟩ := h3 (by omega)
      cases hd
      exact hc j hj)]
    simp

theorem compare_u8s : ∀ (l m : List Int), Byt l → Byt m → Lib.compareBytes (u8s l) (u8s m) = cmpI l m
  | [], [], _, _ => rfl
  | [], _ :: _, _, _ => rfl
  | _ :: _, [], _, _ => rfl
  | a :: l, b :: m, hl, hm => by
    have ha := hl a (by simp)
    have hb := hm b (by simp)
    have ih := compare_u8s l m (fun x hx => hl x (by simp [hx])) (fun x hx => hm x (by simp [hx]))
    show (if a.toNat.toUInt8 < b.toNat.toUInt8 then (-1 : Int) else if b.toNat.toUInt8 < a.toNat.toUInt8 then 1 else Lib.compareBytes (u8s l) (u8s m)) = (if a < b then -1 else if b < a then 1 else cmpI l m)
    have e1 : (a.toNat.toUInt8 < b.toNat.toUInt8) ↔ a < b := by
      rw [UInt8.lt_iff_toNat_lt]; simp; omega
    have e2 : (b.toNat.toUInt8 < a.toNat.toUInt8) ↔ b < a := by
      rw [UInt8.lt_iff_toNat_lt]; simp; omega
    simp only [e1, e2, ih]

theorem run_compare {P : Program} {w : World} {A B : Option Addr} {n c m d : Nat} {l k : List Int} (h : Kd.C (Kd.int .u8) w A n l) (g : Kd.C (Kd.int .u8) w B m k) (hl : Byt l) (hk : Byt k) :
    (Extern.BytealgCompare.compare #[.slice A n c, .slice B m d]).run P w = .ok (.int .i64 (cmpI l k)) w := by
  have e : Extern.BytealgCompare.compare #[.slice A n c, .slice B m d] = (do pure (goInt (Extern.BytealgCompare.cmp (← Extern.Bytes.bytesOf (.slice A n c)) (← Extern.Bytes.bytesOf (.slice B m d))))) := rfl
  rw [e]
  simp only [Sem.run_bind, run_bytesOf h, run_bytesOf g, Result.andThen_ok, Sem.run_pure, goInt, Lib.cmp_eq]
  rw [compare_u8s l k hl hk]

end Go.Proofs.YtpdibidfjhjoeaaDoor.Run
