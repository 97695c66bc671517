/- lockmode.Joined over the table as it is laid; the law's own join; (*Txn).needs where a lock is held. -/
import Derived.Test.YbulkyxsDoorWalksA
namespace Go.Proofs.YbulkyxsDoor
open Go.RowKit

/-- The join of two modes, as the law says it. -/
def joinI (a b : Int) : Int := if a = b then a else if a = 2 ∨ b = 2 then 2 else if (a = 1 ∧ b = 3) ∨ (a = 3 ∧ b = 1) then 3 else 2

/-- The table's cells, row by row. -/
def joinTab : List Int := [0, 0, 0, 0, 0, 0, 1, 2, 3, 2, 0, 2, 2, 2, 2, 0, 3, 2, 3, 2, 0, 2, 2, 2, 4]

/-- The variable 'joined' holds the table. -/
def Joins (w : World) : Prop := ∀ i, i < 25 → w.cell? ⟨1, i, none⟩ = some (.int .i8 (joinTab.getD i 0))

set_option maxHeartbeats 1000000 in
theorem joined_any (a b : Int) (w : World) (ha : 1 ≤ a ∧ a ≤ 4) (hb : 1 ≤ b ∧ b ≤ 4) (hJ : Joins w) :
    Calls Ybad.prog 18 #[.int .i8 a, .int .i8 b] w fun e w' => e = .returned (.int .i8 (joinI a b)) ∧ w' = w := by
  obtain ⟨i, rfl⟩ : ∃ i : Nat, a = (i : Int) := ⟨a.toNat, by omega⟩
  obtain ⟨j, rfl⟩ : ∃ j : Nat, b = (j : Int) := ⟨b.toNat, by omega⟩
  have hc := hJ (i * 5 + j) (by omega)
  clear hJ
  rcases (by omega : i = 1 ∨ i = 2 ∨ i = 3 ∨ i = 4) with rfl | rfl | rfl | rfl <;>
  rcases (by omega : j = 1 ∨ j = 2 ∨ j = 3 ∨ j = 4) with rfl | rfl | rfl | rfl
  all_goals
    simp [joinTab] at hc
    clear ha hb
    go_enter Ybad.func18, Ybad.ntmps18
    go_wp2
    go_ret
    exact ⟨rfl, rfl⟩

set_option maxHeartbeats 1000000 in
theorem join_any (a b : Int) (w : World) (ha : 1 ≤ a ∧ a ≤ 4) (hb : 1 ≤ b ∧ b ≤ 4) :
    Calls Ybad.prog 13 #[.int .i8 a, .int .i8 b] w fun e w' => e = .returned (.int .i8 (joinI a b)) ∧ w' = w := by
  rcases (by omega : a = 1 ∨ a = 2 ∨ a = 3 ∨ a = 4) with rfl | rfl | rfl | rfl <;>
  rcases (by omega : b = 1 ∨ b = 2 ∨ b = 3 ∨ b = 4) with rfl | rfl | rfl | rfl
  all_goals
    clear ha hb
    go_enter Ybad.func13, Ybad.ntmps13
    go_wp2
    go_ret
    exact ⟨rfl, rfl⟩

/-- (*Txn).needs where a lock of mode h is held. -/
theorem needs_yes (Bt : Nat) (k e : ByteArray) (kd m h : Int) (w : World) (hh : 1 ≤ h ∧ h ≤ 4) (hm : 1 ≤ m ∧ m ≤ 4)
    (hH : ∀ W, Below w.heap.size w W → Calls Ybad.prog 17 #[.pointer (some ⟨Bt, 0, none⟩), .agg #[.string k, .string e, .int .i8 kd]] W fun r w' => r = .returned (.tuple #[.int .i8 h, .bool true]) ∧ Below W.heap.size W w')
    (hj : 1 < w.heap.size) (hJ : Joins w) :
    Calls Ybad.prog 12 #[.pointer (some ⟨Bt, 0, none⟩), .agg #[.string k, .string e, .int .i8 kd], .int .i8 m] w fun r w' => r = .returned (.tuple #[.int .i8 (joinI h m), .bool (joinI h m != h)]) ∧ Below w.heap.size w w' := by
  obtain ⟨W, hW⟩ : ∃ W, w.alloc (.cells #[.string k, .string e, .int .i8 kd] 101) = W := ⟨_, rfl⟩
  have hb : Below w.heap.size w W := by rw [← hW]; exact (Below.refl _ _).alloc (Nat.le_refl _) _
  have c0 : W.cell? ⟨w.heap.size, 0, none⟩ = some (.string k) := by rw [← hW]; simp
  have c1 : W.cell? ⟨w.heap.size, 1, none⟩ = some (.string e) := by rw [← hW]; simp
  have c2 : W.cell? ⟨w.heap.size, 2, none⟩ = some (.int .i8 kd) := by rw [← hW]; simp
  have hC := hH W hb
  have cJ := fun V (hV : Below w.heap.size w V) => joined_any h m V hh hm (fun i hi => (hV.cell (p := ⟨1, i, none⟩) hj).trans (hJ i hi))
  clear hH hJ
  obtain ⟨J, hJ⟩ : ∃ J, joinI h m = J := ⟨_, rfl⟩
  rw [hJ] at cJ ⊢
  clear hJ
  go_enter Ybad.func12, Ybad.ntmps12
  go_wp2_with (go_at_call 17; refine hC.mono ?_; rintro e w' ⟨rfl, hb'⟩)
  have hb2 := hb.trans (hb'.mono hb.size)
  refine (cJ _ hb2).mono ?_
  rintro r w2 ⟨rfl, hw⟩; obtain rfl := hw.symm
  go_wp2
  go_ret2
  exact ⟨rfl, hb2⟩
end Go.Proofs.YbulkyxsDoor
