/- zzs1256cmap: the map of one key, built from the puts. -/
import Derived.Test.YbulkyziLatest
import Derived.OwnWalk
import Derived.Laws.IdiomStrings
namespace Go.Proofs.Ybulkyzi
open Go.RowKit

theorem grown_cell {w w' : World} {g : Nat} (hg : w.grownBy w' (some g)) {p : Addr} {v : Value} (h : w.cell? p = some v) (hne : p.block ≠ g) : w'.cell? p = some v :=
  hg.cell h (fun e => hne (Option.some.inj e))

/-- One add's cells. -/
def rowOf (c : Int) (p : Put) : List Value := [.int .u64 c, .string ⟨#[114]⟩, .int .i64 p.time, .string p.rep, .string p.text]
def rowsV : Nat → List Put → List Value
  | _, [] => []
  | k, p :: ps => rowOf ((k : Int) + 1) p ++ rowsV (k + 1) ps

theorem rowsV_snoc (p : Put) : ∀ (ps : List Put) (k : Nat), rowsV k (ps ++ [p]) = rowsV k ps ++ rowOf (((k + ps.length : Nat) : Int) + 1) p
  | [], k => by simp [rowsV]
  | x :: ps, k => by
    simp only [List.cons_append, rowsV, rowsV_snoc p ps (k + 1), List.length_cons, List.append_assoc]
    rw [show k + 1 + ps.length = k + (ps.length + 1) by omega]
theorem rowsV_get : ∀ (ps : List Put) (k i j : Nat) (h : i < ps.length), j < 5 → (rowsV k ps)[i * 5 + j]? = (rowOf (((k + i : Nat) : Int) + 1) ps[i])[j]?
  | x :: ps, k, 0, j, _, hj => by
    simp only [rowsV, Nat.zero_mul, Nat.zero_add, Nat.add_zero, List.getElem_cons_zero]
    rw [List.getElem?_append_left (by simp [rowOf]; omega)]
  | x :: ps, k, i + 1, j, h, hj => by
    simp only [rowsV, List.getElem_cons_succ]
    rw [List.getElem?_append_right (by simp [rowOf]; omega)]
    rw [show (i + 1) * 5 + j - (rowOf ((k : Int) + 1) x).length = i * 5 + j by simp [rowOf]; omega, rowsV_get ps (k + 1) i j (by simpa using h) hj, show k + 1 + i = k + (i + 1) by omega]

theorem info82 : (Yba.prog.info? 82).map (fun i => (i.zero, i.size, i.bytes)) = some (some (.agg #[.int .u64 0, .string ⟨#[]⟩, .int .i64 0, .string ⟨#[]⟩, .string ⟨#[]⟩]), 5, 64) := by kernel_rfl

theorem row_new (wr : World) (o : Obj) (c : Int) (p : Put) : ∀ (j : Nat) (u : Value), (rowOf c p)[j]? = some u → ((wr.alloc o).alloc (.cells #[.int .u64 c, .string ⟨#[114]⟩, .int .i64 p.time, .string p.rep, .string p.text] 82)).cell? ((⟨wr.heap.size + 1, 0, none⟩ : Addr).add j) = some u := by
  intro j u h
  have e : wr.heap.size + 1 = (wr.alloc o).heap.size := by simp
  rw [e, Addr.add_lit]
  simp only [World.cell?_alloc_mark, Nat.zero_add]
  rw [← h, List.getElem?_toArray]; rfl
theorem row_one (c : Int) (p : Put) : ∀ u ∈ rowOf c p, u.oneCell' = true := by
  intro u hu
  simp [rowOf] at hu
  rcases hu with rfl | rfl | rfl | rfl | rfl <;> rfl

/-- A put lies at its three cells. -/
structure PutAt (w : World) (b off i : Nat) (p : Put) : Prop where
  c0 : w.cell? ⟨b, off + i * 3, none⟩ = some (.int .i64 p.time)
  c1 : w.cell? ⟨b, off + i * 3 + 1, none⟩ = some (.string p.rep)
  c2 : w.cell? ⟨b, off + i * 3 + 2, none⟩ = some (.string p.text)
theorem PutAt.later {w w' : World} {b off i : Nat} {p : Put} (h : PutAt w b off i p) (hb : Below w.heap.size w w') : PutAt w' b off i p := by
  have c : ∀ {x : Addr} {v : Value}, w.cell? x = some v → w'.cell? x = some v := fun {x v} h => (hb.cell (block_lt_of_cell h)).trans h
  exact ⟨c h.c0, c h.c1, c h.c2⟩
/-- The slice of puts, as it came in. -/
def Puts (w : World) (a : Option Addr) (ps : List Put) : Prop := 0 < ps.length → ∃ b off, a = some ⟨b, off, none⟩ ∧ ∀ i (h : i < ps.length), PutAt w b off i ps[i]
theorem Puts.later {w w' : World} {a : Option Addr} {ps : List Put} (h : Puts w a ps) (hb : Below w.heap.size w w') : Puts w' a ps := by
  intro h0
  obtain ⟨b, off, e, hp⟩ := h h0
  exact ⟨b, off, e, fun i hi => (hp i hi).later hb⟩

set_option maxRecDepth 100000 in
set_option maxHeartbeats 2000000 in
theorem cmap_any (a : Option Addr) (len cap : Nat) (key : ByteArray) (ps : List Put) (w : World) (hlen : ps.length = len) (hbig : len ≤ 1024) (hk : key.size ≤ maxLen) (hP : Puts w a ps) :
    Calls Yba.prog 19 #[.slice a len cap, .string key] w fun e w' => ∃ Bm b be g, e = .returned (.pointer (some ⟨Bm, 0, none⟩)) ∧ Held w' Bm b be g len key ps ∧ Below w.heap.size w w' := by
  obtain ⟨i0, hi, hz0, hz1, hz2⟩ := info_parts info82
  have HP : Hid (Puts w a ps) := hP
  have HL : Hid (ps.length = len) := hlen
  clear hP hlen
  have hmm := @run_makeMap Yba.prog
  go_enter Yba.func19, Yba.ntmps19
  go_wp2_with (at_make; refine wpList_make_own _ rfl _ _ 80 rfl w.heap.size 82 i0 _ 5 Yba.underlying80 hi hz0 hz1 _ _ _ len rfl rfl rfl (by rw [hz2]; omega) (by unfold maxLen; omega) (Nat.le_refl _) ?_)
  intro w1 hown0 hgrow0
  go_wp2
  go_loopw [5, 13] (fun v i wr => ∃ k : Nat, k ≤ len ∧ i = .int .i64 k ∧ v = .slice (some ⟨w.heap.size, 0, none⟩) k len ∧
      wr.ownsRow w.heap.size 82 5 (.slice (some ⟨w.heap.size, 0, none⟩) k len) k (rowsV 0 (ps.take k)) ∧ Below w.heap.size w wr)
      (fun _ i _ => len - (intOf i).toNat)
  case atStart => exact ⟨0, Nat.zero_le _, rfl, rfl, hown0, (Below.refl _ _).grown hgrow0 (Nat.le_refl _) (fun k h => by cases h)⟩
  case round =>
    obtain ⟨k, hk', rfl, rfl, hown, hnx⟩ := hrel
    by_cases hlt : k < len
    · obtain ⟨b, off, rfl, hl0⟩ := HP.out (by rw [HL.out]; omega)
      have hkl : k < ps.length := by rw [HL.out]; exact hlt
      obtain ⟨p, hp⟩ : ∃ p, ps[k]'hkl = p := ⟨_, rfl⟩
      have hl := (hl0 k hkl).later hnx
      rw [hp] at hl
      obtain ⟨c0, c1, c2⟩ := hl
      have HR : Hid (rowsV 0 (ps.take (k + 1)) = rowsV 0 (ps.take k) ++ rowOf ((k : Int) + 1) p) := by
        show rowsV 0 (ps.take (k + 1)) = _
        rw [List.take_succ_eq_append_getElem hkl, rowsV_snoc, hp]
        simp; rw [Nat.min_eq_left (by omega)]
      have HL0 : Hid (∀ i (h : i < ps.length), PutAt w b off i ps[i]) := hl0
      have HKL : Hid (k < ps.length) := hkl
      clear hl0 hp hkl
      go_wp2_with (at_builtin; refine wpList_append_fits _ rfl _ _ 80 rfl w.heap.size 82 i0 5 Yba.underlying80 hi hz1 w.heap.size k len _ rfl ((hown.alloc _).alloc _) ⟨wr.heap.size + 1, 0, none⟩ 1 1 (rowOf ((k : Int) + 1) p) rfl rfl (row_new wr _ _ _) (row_one _ _) (by omega) ?_)
      intro w2 hown2 hgrow2
      have hb2 : Below w.heap.size w w2 := ((hnx.alloc hnx.size _).alloc (by simp; have := hnx.size; omega) _).grown hgrow2 (by simp; have := hnx.size; omega) (fun j hj => by cases hj; exact Nat.le_refl _)
      have HO : Hid (w2.ownsRow w.heap.size 82 5 (.slice (some ⟨w.heap.size, 0, none⟩) (k + 1) len) (k + 1) (rowsV 0 (ps.take (k + 1)))) := by
        show w2.ownsRow _ _ _ _ _ _
        rw [HR.out]; exact hown2
      clear hown2 hgrow2 hown
      go_wp2
      go_roundw
      case rel => exact ⟨k + 1, by omega, by go_num, rfl, HO.out, hb2⟩
      case measure => simp [intOf]; omega
    · obtain rfl : k = len := by omega
      rw [List.take_of_length_le (by rw [HL.out]; omega)] at hown
      obtain ⟨W1, hW1⟩ : ∃ W1, wr.alloc (.map #[] 0) = W1 := ⟨_, rfl⟩
      have b1 : Below wr.heap.size wr W1 := by rw [← hW1]; exact (Below.refl _ _).alloc (Nat.le_refl _) _
      have o1 : W1.ownsMap Yba.prog 9 ptrElem wr.heap.size 0 (.map []) := by rw [← hW1]; exact World.ownsMap_made _ _ _ _
      have s1 : W1.heap.size = wr.heap.size + 1 := by rw [← hW1]; simp
      obtain ⟨W2, hW2⟩ : ∃ W2, W1.alloc (.cells #[.slice (some ⟨w.heap.size, 0, none⟩) k k, .int .u64 0, .string ⟨#[]⟩, .int .i64 0, .string ⟨#[]⟩, .string ⟨#[]⟩] 85) = W2 := ⟨_, rfl⟩
      have b2 : Below W1.heap.size W1 W2 := by rw [← hW2]; exact (Below.refl _ _).alloc (Nat.le_refl _) _
      have o2 : W2.ownsMap Yba.prog 9 ptrElem wr.heap.size 0 (.map []) := by rw [← hW2]; exact o1.alloc _
      have c2 : W2.cell? ⟨W1.heap.size, 0, none⟩ = some (.slice (some ⟨w.heap.size, 0, none⟩) k k) := by rw [← hW2]; simp
      obtain ⟨W3, hup, o3, g3⟩ := one_made o2 key hk W1.heap.size
      rw [s1] at hup c2 o3
      have OW : Hid (wr.ownsRow w.heap.size 82 5 (.slice (some ⟨w.heap.size, 0, none⟩) k k) k (rowsV 0 ps)) := hown
      clear hown
      go_wp2
      go_ret
      have hB2 : Below wr.heap.size wr W2 := b1.trans (b2.mono b1.size)
      have old2 : Below w.heap.size w W2 := hnx.trans (hB2.mono hnx.size)
      have old3 : Below w.heap.size w W3 := old2.grown g3 old2.size (fun j hj => by cases hj; exact hnx.size)
      have hN : ∀ j, j < k * 5 → w.heap.size < wr.heap.size := fun j hj => by
        have := OW.out.cellAt j hj
        have hlen : (rowsV 0 ps).length = k * 5 := OW.out.1
        rw [List.getElem?_eq_getElem (by omega)] at this
        exact block_lt_of_cell this
      have row : ∀ j, j < k * 5 → W3.cell? ⟨w.heap.size, j, none⟩ = (rowsV 0 ps)[j]? := fun j hj => by
        have h1 := OW.out.cellAt j hj
        have hlen : (rowsV 0 ps).length = k * 5 := OW.out.1
        rw [List.getElem?_eq_getElem (by omega)] at h1 ⊢
        have h2 := (hB2.cell (p := ⟨w.heap.size, j, none⟩) (hN j hj)).trans h1
        exact grown_cell g3 h2 (by have := hN j hj; simp; omega)
      refine ⟨_, wr.heap.size, wr.heap.size + 1, w.heap.size, rfl, ?_, (old3.alloc old3.size _).alloc (by simp; have := old3.size; omega) _⟩
      have hB5 : ∀ o o', Below W3.heap.size W3 ((W3.alloc o).alloc o') := fun o o' => ((Below.refl _ _).alloc (Nat.le_refl _) _).alloc (by simp) _
      have cc : ∀ {o o' : Obj} {x : Addr} {v : Value}, W3.cell? x = some v → ((W3.alloc o).alloc o').cell? x = some v := fun {o o' x v} h => ((hB5 o o').cell (block_lt_of_cell h)).trans h
      refine ⟨by simp, o3.later (hB5 _ _), cc ?_, by rw [HL.out]; omega, fun i hi => ?_⟩
      · rw [HL.out]; exact grown_cell g3 c2 (by simp)
      · have hil : i < k := by rw [← HL.out]; exact hi
        have get : ∀ j, j < 5 → W3.cell? ⟨w.heap.size, i * 5 + j, none⟩ = (rowOf ((i : Int) + 1) ps[i])[j]? := fun j hj => by
          rw [row (i * 5 + j) (by omega), rowsV_get ps 0 i j hi hj, Nat.zero_add]
        have e0 := get 0 (by omega)
        have e1 := get 1 (by omega)
        have e2 := get 2 (by omega)
        have e3 := get 3 (by omega)
        have e4 := get 4 (by omega)
        exact ⟨cc e0, cc e1, cc e2, cc e3, cc e4⟩
end Go.Proofs.Ybulkyzi
