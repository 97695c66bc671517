/- 'countersign.LawS1250BPicked': the walk. -/
import Derived.Test.YbulkywcQuote
import Derived.OwnWalk
import Derived.Laws.IdiomStrings
namespace Go.Proofs.Ybulkywc.lawS1250BPicked
open Go.RowKit

theorem info5 : (Yba.prog.info? 5).map (fun i => (i.zero, i.size, i.bytes)) = some (some (.int .u8 0), 1, 1) := by kernel_rfl

/-- WHAT THE WALK IS TOLD OF A SLICE OF INTEGERS THAT CAME IN: it is nil; or it leads to a row of 'cap' cells, the numbers 'zs' (the first 'len' are its elements, the rest its spare room), each fitting its kind. -/
def IsRow (k : IntKind) (w : World) (a : Option Addr) (len cap : Nat) (zs : List Int) : Prop :=
  (a = none ∧ len = 0 ∧ cap = 0 ∧ zs = []) ∨
  ∃ x, a = some x ∧ len ≤ cap ∧ cap ≤ maxLen ∧ zs.length = cap ∧ (∀ i, i < zs.length → w.cell? (x.add i) = some (.int k (zs.getD i 0))) ∧ ∀ n ∈ zs, (Lit.int k n).wf = true

def bytesV (xs : List UInt8) : List Value := xs.map fun b => .int .u8 (b.toNat : Int)

/-- What 'want' holds when the bytes xs have been picked, n in all. -/
def wantP (n : Nat) (xs : List UInt8) : Bool := decide (0 < n) && xs.all fun b => okI (b.toNat : Int)

set_option maxHeartbeats 1000000 in
theorem walk (a0 : Option Addr) (len0 cap0 : Nat) (z0 : List Int) (w : World) (w0 : IsRow .u8 w a0 len0 cap0 z0) :
    Calls Yba.prog 4 #[.slice a0 len0 cap0] w fun e w' => e = .returned (.bool true) ∧ Below w.heap.size w w' := by
  obtain ⟨i0, hi, hz0, hz1, hz2⟩ := info_parts info5
  have hmax : len0 ≤ maxLen := by
    rcases w0 with ⟨_, h, _, _⟩ | ⟨x, _, h1, h2, _⟩
    · rw [h]; exact Nat.zero_le _
    · exact Nat.le_trans h1 h2
  unfold maxLen at hmax
  have W0 : Hid (IsRow .u8 w a0 len0 cap0 z0) := w0
  clear w0
  by_cases hbig : 1024 < len0
  · go_enter Yba.func4, Yba.ntmps4
    go_wp2
    go_ret
    exact ⟨rfl, Below.refl _ _⟩
  · go_enter Yba.func4, Yba.ntmps4
    go_wp2_with (at_make; refine wpList_make_own _ rfl _ _ 24 rfl w.heap.size 5 i0 (.int .u8 0) 1 Yba.underlying24 hi hz0 hz1 _ _ _ len0 rfl rfl rfl (by rw [hz2]; omega) (by unfold maxLen; omega) (Nat.le_refl _) ?_)
    intro w1 hown0 hgrow0
    go_wp2
    go_loopw [3, 4, 5] (fun v t i wr => ∃ (k : Nat) (xs : List UInt8), k ≤ len0 ∧ xs.length = k ∧ i = .int .i64 k ∧ t = .bool (wantP len0 xs) ∧ v = .slice (some ⟨w.heap.size, 0, none⟩) k len0 ∧
      wr.ownsRow w.heap.size 5 1 (.slice (some ⟨w.heap.size, 0, none⟩) k len0) k (bytesV xs) ∧ Below w.heap.size w wr)
      (fun _ _ i _ => len0 - (intOf i).toNat)
    case atStart => exact ⟨0, [], Nat.zero_le _, rfl, rfl, by simp [wantP], rfl, hown0, (Below.refl _ _).grown hgrow0 (Nat.le_refl _) (fun k h => by cases h)⟩
    case round =>
      obtain ⟨k, xs, hk, hxl, rfl, rfl, rfl, hown, hnx⟩ := hrel
      by_cases hlt : k < len0
      · rcases W0.out with ⟨_, h, _, _⟩ | ⟨x, rfl, hl, hm, hzl, hcell, hwf⟩
        · exfalso; omega
        obtain ⟨z, hz⟩ : ∃ z, z0.getD k 0 = z := ⟨_, rfl⟩
        have hzw : (Lit.int .u8 z).wf = true := by
          rw [← hz]; refine hwf _ ?_; rw [List.getD_eq_getElem?_getD, List.getElem?_eq_getElem (by omega)]; exact List.getElem_mem _
        have hc0 : w.cell? (x.add k) = some (.int .u8 z) := by rw [← hz]; exact hcell k (by omega)
        have hcx : wr.cell? (x.add k) = some (.int .u8 z) := (hnx.cell (block_lt_of_cell hc0)).trans hc0
        have hzb : 0 ≤ z ∧ z ≤ 255 := by
          have e1 : IntKind.u8.min = 0 := rfl
          have e2 : IntKind.u8.max = 255 := rfl
          simp [Lit.wf, e1, e2] at hzw; omega
        obtain ⟨hza, hzb⟩ := hzb
        have hidx : (z % 17).toNat < (⟨#[33, 126, 65, 122, 48, 57, 35, 34, 32, 44, 92, 127, 0, 9, 195, 169, 255]⟩ : ByteArray).size := by show _ < 17; omega
        obtain ⟨B, hB⟩ : ∃ B, (⟨#[33, 126, 65, 122, 48, 57, 35, 34, 32, 44, 92, 127, 0, 9, 195, 169, 255]⟩ : ByteArray)[(z % 17).toNat]'hidx = B := ⟨_, rfl⟩
        clear hcell hwf hz hc0 hzw
        have cO := fun W => ok_any (B.toNat : Int) W
        obtain ⟨t, ht⟩ : ∃ t, okI (B.toNat : Int) = t := ⟨_, rfl⟩
        rw [ht] at cO
        have HT : Hid (okI (B.toNat : Int) = t) := ht
        clear ht
        go_wp2_with (at_builtin; refine wpList_append_fits _ rfl _ _ 24 rfl w.heap.size 5 i0 1 Yba.underlying24 hi hz1 w.heap.size k len0 _ rfl (hown.alloc _) ⟨wr.heap.size, 0, none⟩ 1 1 [.int .u8 (B.toNat : Int)] rfl rfl (by intro t u ht; match t, ht with | 0, ht => simp at ht; subst ht; simp [Addr.add]) (by intro u hu; simp at hu; subst hu; rfl) (by omega) ?_)
        intro w2 hown2 hgrow2
        go_wp2_with (go_at_call 5; refine (cO _).mono ?_; rintro e w' ⟨rfl, hw⟩; obtain rfl := hw.symm)
        · have ht : okI (B.toNat : Int) = false := by rw [HT.out]; simpa using (by assumption : (!t) = true)
          have hown3 : w2.ownsRow w.heap.size 5 1 (.slice (some ⟨w.heap.size, 0, none⟩) (k + 1) len0) (k + 1) (bytesV (xs ++ [B])) := by
            simpa [bytesV] using hown2
          go_roundw
          case rel => exact ⟨k + 1, xs ++ [B], by omega, by simp [hxl], by go_num, by simp [wantP, ht], rfl, hown3, (hnx.alloc hnx.size _).grown hgrow2 (by simp; have := hnx.size; omega) (fun k hk => by cases hk; exact Nat.le_refl _)⟩
          case measure => simp [intOf]; omega
        · have ht : okI (B.toNat : Int) = true := by rw [HT.out]; simpa using (by assumption : (!t) = false)
          have hown3 : w2.ownsRow w.heap.size 5 1 (.slice (some ⟨w.heap.size, 0, none⟩) (k + 1) len0) (k + 1) (bytesV (xs ++ [B])) := by
            simpa [bytesV] using hown2
          go_roundw
          case rel => exact ⟨k + 1, xs ++ [B], by omega, by simp [hxl], by go_num, by simp [wantP, ht], rfl, hown3, (hnx.alloc hnx.size _).grown hgrow2 (by simp; have := hnx.size; omega) (fun k hk => by cases hk; exact Nat.le_refl _)⟩
          case measure => simp [intOf]; omega
      · have hcell : ∀ j (hj : j < xs.length), wr.cell? ((⟨w.heap.size, 0, none⟩ : Addr).add j) = some (.int .u8 ((xs[j]).toNat : Int)) := by
          intro j hj
          rw [Addr.add_lit, Nat.zero_add, hown.cellAt j (by omega)]
          simp [bytesV, List.getElem?_eq_getElem hj]
        have hcv := run_convert_bytes_back (P := Yba.prog) wr 24 9 5 ⟨w.heap.size, 0, none⟩ len0 xs Yba.underlying24 Yba.underlying5 Yba.underlying9 hcell
        rw [hxl] at hcv
        have hQ := quotable_any ⟨xs.toArray⟩ wr
        have HE : Hid (quoted ⟨xs.toArray⟩ = wantP len0 xs) := by
          show quoted ⟨xs.toArray⟩ = wantP len0 xs
          rw [quoted_size]
          unfold wantP allOk
          have e : (⟨xs.toArray⟩ : ByteArray).size = len0 := by show xs.toArray.size = len0; simp; omega
          rw [e]
        rw [HE.out] at hQ
        clear hcell hgrow0 hown0 hxl
        go_wp2_with (go_at_call 6; refine hQ.mono ?_; rintro e w' ⟨rfl, hb⟩)
        go_ret
        exact ⟨ret_bool (by simp), hnx.trans (Below.mono (by assumption) hnx.size)⟩

end Go.Proofs.Ybulkywc.lawS1250BPicked
