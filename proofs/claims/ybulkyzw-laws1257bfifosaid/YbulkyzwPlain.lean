/- The ring's arithmetic and its contents, without the program. -/
import Derived.WalkKit
import Derived.Below
namespace Go.Proofs.Ybulkyzw
open Go.RowKit

theorem wrap_id {x : Int} (h0 : 0 ≤ x) (h1 : x < 4294967296) : IntKind.i64.wrap x = x := by
  rw [IntKind.wrap_i64]; omega

/-- 'a & (L - 1)', L a power of two: the remainder. -/
theorem mask_eq (a L e : Nat) (hL : L = 2 ^ e) (he : e ≤ 12) (ha : a < 65536) : bits BinOp.and IntKind.i64 (a : Int) ((L : Int) - 1) = ((a % L : Nat) : Int) := by
  have hpos : 0 < L := by rw [hL]; exact Nat.two_pow_pos e
  have hle : L ≤ 4096 := by rw [hL]; exact Nat.pow_le_pow_right (by omega) he
  have e1 : (L : Int) - 1 = ((L - 1 : Nat) : Int) := by omega
  have hlt : a % L < L := Nat.mod_lt _ hpos
  rw [e1]
  have t1 : (BitVec.ofInt 64 (a : Int)).toNat = a := by
    rw [BitVec.ofInt_natCast, BitVec.toNat_ofNat]; exact Nat.mod_eq_of_lt (by omega)
  have t2 : (BitVec.ofInt 64 ((L - 1 : Nat) : Int)).toNat = L - 1 := by
    rw [BitVec.ofInt_natCast, BitVec.toNat_ofNat]; exact Nat.mod_eq_of_lt (by omega)
  show IntKind.i64.wrap ((BitVec.ofInt 64 (a : Int) &&& BitVec.ofInt 64 ((L - 1 : Nat) : Int)).toNat : Int) = _
  rw [BitVec.toNat_and, t1, t2, hL, Nat.and_two_pow_sub_one_eq_mod, ← hL]
  exact wrap_id (by omega) (by omega)
theorem mask_wrap (x y : Int) (a L e : Nat) (hx : x = (a : Int)) (hy : y = (L : Int) - 1) (hL : L = 2 ^ e) (he : e ≤ 12) (ha : a < 65536) : bits BinOp.and IntKind.i64 (IntKind.i64.wrap x) (IntKind.i64.wrap y) = ((a % L : Nat) : Int) := by
  have hpos : 0 < L := by rw [hL]; exact Nat.two_pow_pos e
  have hle : L ≤ 4096 := by rw [hL]; exact Nat.pow_le_pow_right (by omega) he
  rw [hx, hy, wrap_id (by omega) (by omega), wrap_id (by omega) (by omega)]
  exact mask_eq a L e hL he ha
end Go.Proofs.Ybulkyzw
