/- interlace.LawS1253BNoneHeld: the walk. -/
import Derived.Test.YbulkyxsDoorWalksA
namespace Go.Proofs.YbulkyxsDoor
open Go.RowKit

theorem nil88 (k : ByteArray) (w : World) : (Instr.lookup 88 (.map none) (.string k) true).run Ybad.prog w = .ok (.tuple #[.int .i8 0, .bool false]) w := by kernel_rfl
theorem nil89 (k e : ByteArray) (kd : Int) (w : World) : (Instr.lookup 89 (.map none) (.agg #[.string k, .string e, .int .i8 kd]) true).run Ybad.prog w = .ok (.tuple #[.int .i8 0, .bool false]) w := by kernel_rfl

theorem needs_nil (Bt Bl : Nat) (k e : ByteArray) (kd m : Int) (w : World)
    (hs : w.cell? ⟨Bt, 9, none⟩ = some (.iface 87 (.pointer (some ⟨Bl, 0, none⟩)))) (h0 : w.cell? ⟨Bl, 0, none⟩ = some (.map none)) (h1 : w.cell? ⟨Bl, 1, none⟩ = some (.map none)) :
    Calls Ybad.prog 12 #[.pointer (some ⟨Bt, 0, none⟩), .agg #[.string k, .string e, .int .i8 kd], .int .i8 m] w fun r w' => r = .returned (.tuple #[.int .i8 m, .bool true]) ∧ Below w.heap.size w w' := by
  have hbt := block_lt_of_cell hs
  have hbl := block_lt_of_cell h0
  refine needs_no Bt k e kd m 0 w ?_
  intro W hb
  have hs' := (hb.cell (p := ⟨Bt, 9, none⟩) hbt).trans hs
  have h0' := (hb.cell (p := ⟨Bl, 0, none⟩) hbl).trans h0
  have h1' := (hb.cell (p := ⟨Bl, 1, none⟩) hbl).trans h1
  by_cases hk : kd = 0
  · subst hk
    exact held_key Bt Bl none k e W 0 false hs' h0' (fun V _ => nil88 k V)
  · exact held_wide Bt Bl none k e kd W 0 false hk hs' h1' (fun V _ => nil89 k e kd V)

set_option maxRecDepth 100000 in
set_option maxHeartbeats 1000000 in
theorem none_walk (k e : ByteArray) (x m : Int) (w : World) (h0 : 0 ≤ x) (h1 : x ≤ 255) :
    Calls Ybad.prog 5 #[.string k, .string e, .int .u8 x, .int .i8 m] w fun r w' => r = .returned (.bool true) ∧ Below w.heap.size w w' := by
  have cK := fun W => kind_any x W h0 h1
  go_enter Ybad.func5, Ybad.ntmps5
  go_wp2_with (go_at_call 10; refine (cK _).mono ?_; rintro e w' ⟨rfl, hw⟩; obtain rfl := hw.symm)
  refine (needs_nil (w.heap.size + 1) w.heap.size k e (x % 3) m _ (by simp) (by simp) (by simp)).mono ?_
  rintro r w' ⟨rfl, hb⟩
  go_wp2
  go_ret
  exact ⟨ret_bool (by simp), (((Below.refl _ _).alloc (Nat.le_refl _) _).alloc (by simp) _).trans (hb.mono (by simp; omega))⟩
end Go.Proofs.YbulkyxsDoor
