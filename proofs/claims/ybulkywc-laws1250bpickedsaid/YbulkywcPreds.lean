/- The road's functions below the laws: the laws' own byte test, the closure that 'quotable' hands to strings.ContainsFunc, the library's three functions at that closure, 'quotable'. -/
import Derived.Test.YbulkywcRows
import Derived.WalkKit
import Derived.ProofKit
import Derived.Below
import Derived.Lib.OthersKept
import Derived.Deep.LoopGhost
namespace Go.Proofs.Ybulkywc
open Go.RowKit Go.Lib

/-- The bytes that a quoted value may hold. -/
def okI (c : Int) : Bool := decide (32 < c ∧ c ≤ 126 ∧ c ≠ 34 ∧ c ≠ 92 ∧ c ≠ 44)

theorem ret_bool {a b : Bool} (h : a = b) : Ending.returned (.bool a) = .returned (.bool b) := by rw [h]

set_option maxHeartbeats 400000 in
theorem ok_any (c : Int) (w : World) :
    Calls Yba.prog 5 #[.int .u8 c] w fun e w' => e = .returned (.bool (okI c)) ∧ w' = w := by
  go_enter Yba.func5, Yba.ntmps5
  go_wp2
  all_goals
    go_ret
    refine ⟨ret_bool ?_, rfl⟩
    rw [Bool.eq_iff_iff]; simp [okI]; try omega

set_option maxHeartbeats 400000 in
theorem bad_any (c : Int) (w : World) :
    Calls Yba.prog 8 #[.int .i32 c] w fun e w' => e = .returned (.bool (!okI c)) ∧ w' = w := by
  go_enter Yba.func8, Yba.ntmps8
  go_wp2
  all_goals
    go_ret
    refine ⟨ret_bool ?_, rfl⟩
    rw [Bool.eq_iff_iff]; simp [okI]; try omega

/-- Every byte of the string is one of them. -/
def allOk (s : ByteArray) : Bool := s.data.toList.all fun b => okI (b.toNat : Int)

theorem get_at (s : ByteArray) (pos : Nat) (h : pos < s.size) : s.get! pos = s[pos] := by
  cases s with
  | mk d => exact getElem!_pos d pos h

/-- What the rune at a place is, for the test's sake: a byte that passes is its own rune, one byte wide; where the byte does not pass, no more does the rune. -/
theorem decode_ok (s : ByteArray) (pos : Nat) (h : pos < s.size) (hk : okI ((s[pos]).toNat : Int) = true) : Utf8.decode s pos = ((s[pos]).toNat, 1) := by
  have hg := get_at s pos h
  unfold Utf8.decode
  simp [okI] at hk
  simp only [Nat.add_zero, hg]
  rw [if_pos (by omega)]
theorem decode_bad (s : ByteArray) (pos : Nat) (h : pos < s.size) (hk : okI ((s[pos]).toNat : Int) = false) : okI ((Utf8.decode s pos).1 : Int) = false := by
  have hg := get_at s pos h
  unfold Utf8.decode
  simp only [Nat.add_zero, hg]
  repeat' split
  all_goals (first | exact hk | (simp [okI, Utf8.runeError]; done) | (simp_all [okI]; done) | (simp_all [okI]; omega))


theorem allOk_iff (s : ByteArray) : allOk s = true ↔ ∀ i, (h : i < s.size) → okI ((s[i]).toNat : Int) = true := by
  cases s with
  | mk d =>
    unfold allOk
    rw [List.all_eq_true]
    constructor
    · intro H i h
      exact H d[i] (by simp)
    · intro H b hb
      obtain ⟨i, hi, rfl⟩ := List.getElem_of_mem hb
      exact H i hi

end Go.Proofs.Ybulkywc
