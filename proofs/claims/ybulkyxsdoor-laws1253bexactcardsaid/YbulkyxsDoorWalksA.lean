/- The road of the two laws below their own texts: zzs1253bkind, zzs1253bmode, (*Txn).locking, held, needs where nothing is held. -/
import Derived.Test.YbulkyxsDoorRows
import Derived.WalkKit
import Derived.ProofKit
import Derived.Below
import Derived.Deep.QuietTactic
import Derived.BigQuiet
import Derived.WalkSmall
namespace Go.Proofs.YbulkyxsDoor
open Go.RowKit

theorem ret_bool {a b : Bool} (h : a = b) : Ending.returned (.bool a) = .returned (.bool b) := by rw [h]
theorem ret_int {k : IntKind} {a b : Int} (h : a = b) : Ending.returned (.int k a) = .returned (.int k b) := by rw [h]

/-- zzs1253bkind: x % 3. -/
theorem kind_any (x : Int) (w : World) (h0 : 0 ≤ x) (h1 : x ≤ 255) :
    Calls Ybad.prog 10 #[.int .u8 x] w fun e w' => e = .returned (.int .i8 (x % 3)) ∧ w' = w := by
  rcases (by omega : x % 3 = 0 ∨ x % 3 = 1 ∨ x % 3 = 2) with h | h | h
  all_goals
    rw [h]
    go_enter Ybad.func10, Ybad.ntmps10
    go_wp2
    go_ret
    exact ⟨rfl, rfl⟩

/-- zzs1253bmode: x % 4 + 1. -/
theorem mode_any (x : Int) (w : World) (h0 : 0 ≤ x) (h1 : x ≤ 255) :
    Calls Ybad.prog 11 #[.int .u8 x] w fun e w' => e = .returned (.int .i8 (x % 4 + 1)) ∧ w' = w := by
  rcases (by omega : x % 4 = 0 ∨ x % 4 = 1 ∨ x % 4 = 2 ∨ x % 4 = 3) with h | h | h | h
  all_goals
    rw [h]
    go_enter Ybad.func11, Ybad.ntmps11
    go_wp2
    go_ret
    exact ⟨rfl, rfl⟩

theorem assert87 (v : Value) (w : World) : (Instr.typeAssert (.iface 87 v) 73 87 false).run Ybad.prog w = .ok v w := by kernel_rfl

/-- (*Txn).locking: the state's pointer. -/
theorem locking_any (Bt Bl : Nat) (w : World) (hs : w.cell? ⟨Bt, 9, none⟩ = some (.iface 87 (.pointer (some ⟨Bl, 0, none⟩)))) :
    Calls Ybad.prog 21 #[.pointer (some ⟨Bt, 0, none⟩)] w fun e w' => e = .returned (.pointer (some ⟨Bl, 0, none⟩)) ∧ w' = w := by
  have hta := assert87
  go_enter Ybad.func21, Ybad.ntmps21
  go_wp2
  go_ret
  exact ⟨rfl, rfl⟩

/-- (*Txn).held at a key: the answer of the look-up in 'locks'. -/
theorem held_key (Bt Bl : Nat) (m0 : Option Nat) (k e : ByteArray) (w : World) (h : Int) (ok : Bool)
    (hs : w.cell? ⟨Bt, 9, none⟩ = some (.iface 87 (.pointer (some ⟨Bl, 0, none⟩)))) (h0 : w.cell? ⟨Bl, 0, none⟩ = some (.map m0))
    (hL : ∀ W, Below w.heap.size w W → (Instr.lookup 88 (.map m0) (.string k) true).run Ybad.prog W = .ok (.tuple #[.int .i8 h, .bool ok]) W) :
    Calls Ybad.prog 17 #[.pointer (some ⟨Bt, 0, none⟩), .agg #[.string k, .string e, .int .i8 0]] w fun r w' => r = .returned (.tuple #[.int .i8 h, .bool ok]) ∧ Below w.heap.size w w' := by
  have hbt := block_lt_of_cell hs
  have hbl := block_lt_of_cell h0
  obtain ⟨W, hW⟩ : ∃ W, w.alloc (.cells #[.string k, .string e, .int .i8 0] 101) = W := ⟨_, rfl⟩
  have hb : Below w.heap.size w W := by rw [← hW]; exact (Below.refl _ _).alloc (Nat.le_refl _) _
  have hs' := (hb.cell (p := ⟨Bt, 9, none⟩) hbt).trans hs
  have h0' := (hb.cell (p := ⟨Bl, 0, none⟩) hbl).trans h0
  have hL' := fun q => hL (W.drewN q) (below_drewN hb q)
  have cL := locking_any Bt Bl W hs'
  have c0 : W.cell? ⟨w.heap.size, 0, none⟩ = some (.string k) := by rw [← hW]; simp
  have c2 : W.cell? ⟨w.heap.size, 2, none⟩ = some (.int .i8 0) := by rw [← hW]; simp
  clear hs h0 hL hbt hbl
  go_enter Ybad.func17, Ybad.ntmps17
  go_wp2_with (go_at_call 21; refine cL.mono ?_; rintro e w' ⟨rfl, hw⟩; obtain rfl := hw.symm)
  go_quiet (fail)
  go_wp2
  go_ret2
  exact ⟨rfl, below_drewN hb _⟩

/-- (*Txn).held at a span of another kind: the answer of the look-up in 'wideLocks'. -/
theorem held_wide (Bt Bl : Nat) (m1 : Option Nat) (k e : ByteArray) (kd : Int) (w : World) (h : Int) (ok : Bool) (hkd : ¬ kd = 0)
    (hs : w.cell? ⟨Bt, 9, none⟩ = some (.iface 87 (.pointer (some ⟨Bl, 0, none⟩)))) (h1 : w.cell? ⟨Bl, 1, none⟩ = some (.map m1))
    (hL : ∀ W, Below w.heap.size w W → (Instr.lookup 89 (.map m1) (.agg #[.string k, .string e, .int .i8 kd]) true).run Ybad.prog W = .ok (.tuple #[.int .i8 h, .bool ok]) W) :
    Calls Ybad.prog 17 #[.pointer (some ⟨Bt, 0, none⟩), .agg #[.string k, .string e, .int .i8 kd]] w fun r w' => r = .returned (.tuple #[.int .i8 h, .bool ok]) ∧ Below w.heap.size w w' := by
  have hbt := block_lt_of_cell hs
  have hbl := block_lt_of_cell h1
  obtain ⟨W, hW⟩ : ∃ W, w.alloc (.cells #[.string k, .string e, .int .i8 kd] 101) = W := ⟨_, rfl⟩
  have hb : Below w.heap.size w W := by rw [← hW]; exact (Below.refl _ _).alloc (Nat.le_refl _) _
  have hs' := (hb.cell (p := ⟨Bt, 9, none⟩) hbt).trans hs
  have h1' := (hb.cell (p := ⟨Bl, 1, none⟩) hbl).trans h1
  have hL' := fun q => hL (W.drewN q) (below_drewN hb q)
  have cL := locking_any Bt Bl W hs'
  have c0 : W.cell? ⟨w.heap.size, 0, none⟩ = some (.string k) := by rw [← hW]; simp
  have c1 : W.cell? ⟨w.heap.size, 1, none⟩ = some (.string e) := by rw [← hW]; simp
  have c2 : W.cell? ⟨w.heap.size, 2, none⟩ = some (.int .i8 kd) := by rw [← hW]; simp
  clear hs h1 hL hbt hbl
  go_enter Ybad.func17, Ybad.ntmps17
  go_wp2_with (go_at_call 21; refine cL.mono ?_; rintro e w' ⟨rfl, hw⟩; obtain rfl := hw.symm)
  go_quiet (fail)
  go_wp2
  go_ret2
  exact ⟨rfl, below_drewN hb _⟩

/-- (*Txn).needs where nothing is held. -/
theorem needs_no (Bt : Nat) (k e : ByteArray) (kd m h : Int) (w : World)
    (hH : ∀ W, Below w.heap.size w W → Calls Ybad.prog 17 #[.pointer (some ⟨Bt, 0, none⟩), .agg #[.string k, .string e, .int .i8 kd]] W fun r w' => r = .returned (.tuple #[.int .i8 h, .bool false]) ∧ Below W.heap.size W w') :
    Calls Ybad.prog 12 #[.pointer (some ⟨Bt, 0, none⟩), .agg #[.string k, .string e, .int .i8 kd], .int .i8 m] w fun r w' => r = .returned (.tuple #[.int .i8 m, .bool true]) ∧ Below w.heap.size w w' := by
  obtain ⟨W, hW⟩ : ∃ W, w.alloc (.cells #[.string k, .string e, .int .i8 kd] 101) = W := ⟨_, rfl⟩
  have hb : Below w.heap.size w W := by rw [← hW]; exact (Below.refl _ _).alloc (Nat.le_refl _) _
  have c0 : W.cell? ⟨w.heap.size, 0, none⟩ = some (.string k) := by rw [← hW]; simp
  have c1 : W.cell? ⟨w.heap.size, 1, none⟩ = some (.string e) := by rw [← hW]; simp
  have c2 : W.cell? ⟨w.heap.size, 2, none⟩ = some (.int .i8 kd) := by rw [← hW]; simp
  have hC := hH W hb
  clear hH
  go_enter Ybad.func12, Ybad.ntmps12
  go_wp2_with (go_at_call 17; refine hC.mono ?_; rintro e w' ⟨rfl, hb'⟩)
  go_ret2
  exact ⟨rfl, hb.trans (Below.mono (by assumption) hb.size)⟩
end Go.Proofs.YbulkyxsDoor
