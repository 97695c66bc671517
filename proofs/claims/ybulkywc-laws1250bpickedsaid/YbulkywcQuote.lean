/- strings.indexFunc, IndexFunc, ContainsFunc at quotable's closure; quotable. -/
import Derived.Test.YbulkywcPreds
namespace Go.Proofs.Ybulkywc
open Go.RowKit Go.Lib

/-- strings.indexFunc at quotable's closure: -1 just where every byte passes. -/
def Found (s : ByteArray) (k : Int) : Prop := (0 ≤ k ∧ allOk s = false) ∨ (k = -1 ∧ allOk s = true)

set_option maxHeartbeats 1000000 in
theorem indexFunc_any (s : ByteArray) (w : World) :
    Calls Yba.prog 10 #[.string s, .func (.func 8) #[] #[], .bool true] w fun e w' => ∃ k : Int, e = .returned (.int .i64 k) ∧ Found s k ∧ Below w.heap.size w w' := by
  go_enter Yba.func10, Yba.ntmps10
  go_wp2
  go_loopg [] s.size (fun gf wx => ∃ pos : Nat, wx.heap[w.heap.size]? = some (.stringIter s pos) ∧ Below w.heap.size w wx ∧ Hid (∀ i, i < pos → (h : i < s.size) → okI ((s[i]).toNat : Int) = true) ∧ s.size ≤ pos + gf)
  case atStart => exact ⟨0, World.iter_heap w s 0, (Below.refl _ w).alloc (Nat.le_refl _) _, fun i h => absurd h (Nat.not_lt_zero _), by omega⟩
  case round =>
    obtain ⟨pos, hit, hbw, hok, hfu⟩ := hrel
    by_cases hps : pos < s.size
    · obtain ⟨g', rfl⟩ : ∃ g', gk = g' + 1 := ⟨gk - 1, by omega⟩
      have hnx : ∀ ty, (Instr.next (.pointer (some ⟨w.heap.size, 0, none⟩)) true ty).run Yba.prog wr = _ := fun ty => Lib.run_next_any_at wr w.heap.size s pos ty hit hps
      by_cases hk : okI ((s[pos]).toNat : Int) = true
      · have hd := decode_ok s pos hps hk
        rw [hd] at hnx
        have hit2 := Lib.iterAt_heap wr w.heap.size s pos (pos + 1) hit
        have hbw2 := Lib.below_iterAt hbw (k := w.heap.size) (Nat.le_refl _) s (pos + 1)
        have HOK : Hid (∀ i, i < pos + 1 → (h : i < s.size) → okI ((s[i]).toNat : Int) = true) := by
          intro i hi h
          by_cases e : i = pos
          · subst e; exact hk
          · exact hok i (by omega) h
        clear hok hd
        obtain ⟨R, hR⟩ : ∃ R, (s[pos]).toNat = R := ⟨_, rfl⟩
        rw [hR] at hnx hk
        clear hR
        obtain ⟨W, hWd⟩ : ∃ W, wr.iterAt w.heap.size s (pos + 1) = W := ⟨_, rfl⟩
        simp only [hWd] at hnx hit2 hbw2
        clear hWd
        have cS := bad_any (R : Int) W
        rw [hk] at cS; simp only [Bool.not_true] at cS
        clear hk
        go_wp2_with (go_at_call 8; refine cS.mono ?_; rintro e W' ⟨rfl, rfl⟩)
        go_roundg g'
        case measure => omega
        case rel => exact ⟨pos + 1, hit2, hbw2, HOK.out, by omega⟩
      · have hk' : okI ((s[pos]).toNat : Int) = false := by simpa using hk
        have hd := decode_bad s pos hps hk'
        have HA : Hid (allOk s = false) := by
          show allOk s = false
          rw [← Bool.not_eq_true, allOk_iff]
          intro H
          exact hk (H pos hps)
        obtain ⟨R, hR⟩ : ∃ R, (Utf8.decode s pos).1 = R := ⟨_, rfl⟩
        obtain ⟨K, hK⟩ : ∃ K, (Utf8.decode s pos).2 = K := ⟨_, rfl⟩
        rw [hR, hK] at hnx
        rw [hR] at hd
        clear hR hok hk hk'
        have hbw2 := Lib.below_iterAt hbw (k := w.heap.size) (Nat.le_refl _) s (pos + K)
        obtain ⟨W, hWd⟩ : ∃ W, wr.iterAt w.heap.size s (pos + K) = W := ⟨_, rfl⟩
        simp only [hWd] at hnx hbw2
        clear hWd hK
        have cS := bad_any (R : Int) W
        rw [hd] at cS; simp only [Bool.not_false] at cS
        clear hd
        go_wp2_with (go_at_call 8; refine cS.mono ?_; rintro e W' ⟨rfl, rfl⟩)
        go_ret
        exact ⟨_, rfl, .inl ⟨by omega, HA.out⟩, hbw2⟩
    · have hnx : ∀ ty, (Instr.next (.pointer (some ⟨w.heap.size, 0, none⟩)) true ty).run Yba.prog wr = _ := fun ty => Lib.run_next_end_at wr w.heap.size s pos ty hit hps
      go_wp2
      go_ret
      exact ⟨_, rfl, .inr ⟨rfl, (allOk_iff s).mpr fun i h => hok i (by omega) h⟩, hbw⟩

set_option maxHeartbeats 1000000 in
theorem IndexFunc_any (s : ByteArray) (w : World) :
    Calls Yba.prog 9 #[.string s, .func (.func 8) #[] #[]] w fun e w' => ∃ k : Int, e = .returned (.int .i64 k) ∧ Found s k ∧ Below w.heap.size w w' := by
  go_enter Yba.func9, Yba.ntmps9
  go_wp2_with (go_at_call 10; refine (indexFunc_any s w).mono ?_; rintro e w' ⟨k, rfl, hk, hb⟩)
  go_ret
  exact ⟨_, rfl, hk, hb⟩

set_option maxHeartbeats 1000000 in
theorem ContainsFunc_any (s : ByteArray) (w : World) :
    Calls Yba.prog 7 #[.string s, .func (.func 8) #[] #[]] w fun e w' => e = .returned (.bool (!allOk s)) ∧ Below w.heap.size w w' := by
  go_enter Yba.func7, Yba.ntmps7
  go_wp2_with (go_at_call 9; refine (IndexFunc_any s w).mono ?_; rintro e w' ⟨k, rfl, hk, hb⟩)
  go_ret
  refine ⟨ret_bool ?_, hb⟩
  rcases hk with ⟨h1, h2⟩ | ⟨rfl, h2⟩
  · rw [h2]; simp; omega
  · rw [h2]; rfl

/-- 'quotable': not empty, and every byte passes. -/
def quoted (s : ByteArray) : Bool := !s.toList.isEmpty && allOk s

set_option maxHeartbeats 1000000 in
theorem quotable_any (s : ByteArray) (w : World) :
    Calls Yba.prog 6 #[.string s] w fun e w' => e = .returned (.bool (quoted s)) ∧ Below w.heap.size w w' := by
  have hC := ContainsFunc_any s w
  go_enter Yba.func6, Yba.ntmps6
  go_wp2_with (go_at_call 7; refine hC.mono ?_; rintro e w' ⟨rfl, hb⟩)
  · go_ret
    exact ⟨ret_bool (by unfold quoted; simp [*]), Below.refl _ _⟩
  · go_ret
    exact ⟨ret_bool (by unfold quoted; rfl), by assumption⟩

theorem quoted_size (s : ByteArray) : quoted s = (decide (0 < s.size) && allOk s) := by
  unfold quoted
  congr 1
  have h : s.toList.length = s.size := by rw [ByteArray.toList_eq]; rfl
  cases hl : s.toList with
  | nil => rw [hl] at h; simp at h; simp [← h]
  | cons a l => rw [hl] at h; simp at h; simp [← h]

end Go.Proofs.Ybulkywc
