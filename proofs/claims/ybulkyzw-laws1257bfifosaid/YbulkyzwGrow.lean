/- (*queue).grow: from no ring, and from a full one. -/
import Derived.Test.YbulkyzwRing
import Derived.Laws.CopyOwn
import Derived.OwnWalk
namespace Go.Proofs.Ybulkyzw
open Go.RowKit

theorem info20 : (Yba.prog.info? 20).map (fun i => (i.zero, i.size, i.bytes)) = some (some .nilIface, 1, 16) := by kernel_rfl
theorem size20 : (Yba.prog.info? 20).map (·.size) = some 1 := by kernel_rfl

/-- What 'make' has laid. -/
theorem made_nils (n : Nat) : (madeCells #[Value.nilIface] n).toList = List.replicate n .nilIface := by
  rw [List.eq_replicate_iff]
  constructor
  · simp [size_madeCells]
  · intro v hv
    simp [madeCells] at hv
    obtain ⟨a, ha, rfl⟩ := hv
    simp [Nat.mod_one]
theorem made_row {w : World} {base n : Nat} (h : w.ownsRow base 20 1 (.slice (some ⟨base, 0, none⟩) n n) n (madeCells #[Value.nilIface] n).toList) : w.heap[base]? = some (.cells (List.replicate n Value.nilIface).toArray 20 (0, 0)) := by
  obtain ⟨hl, hc⟩ := h
  rcases hc with ⟨hv, _⟩ | ⟨g, cap, cur, hv, _, hh, hn, _, hs, ht⟩
  · cases hv
  · simp only [Value.slice.injEq, Option.some.injEq, Addr.mk.injEq, true_and, and_true] at hv
    obtain ⟨rfl, rfl⟩ := hv
    rw [hh]
    have e : cur.toList = List.replicate n .nilIface := by
      rw [← made_nils, ← ht, List.take_of_length_le (by simp; omega)]
    rw [← e]

/-- One copy into the row that the call made. -/
theorem copy_run {W w0 : World} {B G off dLen dCap sLen sCap : Nat} {sp : Addr} {cur cs : List Value} (hg : W.heap[G]? = some (.cells cur.toArray 20 (0, 0))) (hn : cs.length = Nat.min sLen dLen)
    (hsrc : ∀ j v, cs[j]? = some v → W.cell? (sp.add j) = some v) (hfit : off + cs.length ≤ cur.length) (h1 : ∀ v ∈ cs, v.oneCell' = true) (hb : Below B w0 W) (hBg : B ≤ G) :
    ∃ W', (∀ ty, (Builtin.copy_ #[24, 24] ty #[.slice (some ⟨G, off, none⟩) dLen dCap, .slice (some sp) sLen sCap]).run Yba.prog W = .ok (.int .i64 (cs.length : Int)) W') ∧ W'.heap[G]? = some (.cells (splice cur off cs).toArray 20 (0, 0)) ∧ Below B w0 W' := by
  refine ⟨_, fun ty => run_copy_row (P := Yba.prog) W 24 24 ty 20 G off dLen dCap sp sLen sCap cur.toArray 20 cs Yba.underlying24 size20 hg hn hsrc (by simpa using hfit) h1, ?_, below_setRow hb hBg _⟩
  simpa [splice] using setRow_heap W G _ (cur.toArray.toList.take off ++ cs ++ cur.toArray.toList.drop (off + cs.length)).toArray 20 _ hg

/-- The row's cells, out of its block. -/
theorem row_cells {w : World} {G n : Nat} {row : List Value} (h : w.heap[G]? = some (.cells row.toArray 20 (0, 0))) (hl : row.length = n) (hm : n ≤ maxLen) : (∀ i, i < n → w.cell? ⟨G, i, none⟩ = row[i]?) ∧ (∀ i, i < n → w.frozen? ⟨G, i, none⟩ = false) := by
  have ho : w.ownsRow 0 20 1 (.slice (some ⟨G, 0, none⟩) n n) n row :=
    ⟨by omega, .inr ⟨G, n, row.toArray, rfl, Nat.zero_le _, h, Nat.le_refl _, hm, by simp; omega, by rw [Nat.mul_one]; exact List.take_of_length_le (by simp; omega)⟩⟩
  exact ⟨fun i hi => ho.cellAt i (by omega), fun i _ => ho.frozenAt i⟩

theorem two_splices (Z X1 X2 : List Value) (k m : Nat) (h1 : X1.length = k) (h2 : X2.length = m) (hZ : k + m ≤ Z.length) : splice (splice Z 0 X1) k X2 = X1 ++ X2 ++ Z.drop (k + m) := by
  subst h1; subst h2
  have e1 : splice Z 0 X1 = X1 ++ Z.drop X1.length := by simp [splice]
  rw [e1]
  unfold splice
  rw [List.take_append_of_le_length (Nat.le_refl _), List.take_length, List.drop_append, List.drop_eq_nil_of_le (by omega), List.drop_drop]
  simp [Nat.add_sub_cancel_left]

set_option maxHeartbeats 2000000 in
theorem grow_full (Bq R L head : Nat) (cs : List Value) (w : World) (h : QR w Bq R L head L cs) (hpos : 0 < L) (h8 : 8 ≤ L) (hle : L ≤ 2048) (hh : head < L) (h1 : ∀ v ∈ cs, v.oneCell' = true) :
    Calls Yba.prog 8 #[.pointer (some ⟨Bq, 0, none⟩)] w fun r w' => r = .returned (.tuple #[]) ∧ Only (fun k => k = Bq) w w' ∧ QR w' Bq w.heap.size (2 * L) 0 L (cs.drop head ++ cs.take head ++ List.replicate L .nilIface) := by
  obtain ⟨i0, hi, hz0, hz1, hz2⟩ := info_parts info20
  have c0 := h.c0
  have c1 := h.c1
  have c2 := h.c2
  have hB : Bq < w.heap.size := block_lt_of_cell c0
  have HH := hid h
  have H1 := hid h1
  clear h h1
  go_enter Yba.func8, Yba.ntmps8
  go_wp2_with (at_make; refine wpList_make_full _ rfl _ _ 24 rfl w.heap.size 20 i0 _ 1 Yba.underlying24 hi hz0 hz1 _ _ _ _ (2 * L) rfl rfl (by omega) (by omega) (by rw [hz2]; omega) (by unfold maxLen; omega) (Nat.le_refl _) ?_)
  intro w1 hown1 hgrow1
  have hG := made_row hown1
  have hb1 : Below w.heap.size w w1 := (Below.refl _ _).grown hgrow1 (Nat.le_refl _) (fun k h => by cases h)
  clear hown1 hgrow1
  have d0 := (hb1.cell (p := ⟨Bq, 0, none⟩) hB).trans c0
  have d1 := (hb1.cell (p := ⟨Bq, 1, none⟩) hB).trans c1
  have HG := hid hG
  clear hG
  obtain ⟨Z, hZ⟩ : ∃ Z, List.replicate (2 * L) Value.nilIface = Z := ⟨_, rfl⟩
  rw [hZ] at HG
  have HZ := hid hZ
  obtain ⟨X1, hX1⟩ : ∃ X1, cs.drop head = X1 := ⟨_, rfl⟩
  have l1 : X1.length = L - head := by rw [← hX1, List.length_drop, HH.out.len]
  have HX1 := hid hX1
  have HL1 := hid l1
  obtain ⟨X2, hX2⟩ : ∃ X2, cs.take head = X2 := ⟨_, rfl⟩
  have l2 : X2.length = head := by rw [← hX2, List.length_take, HH.out.len]; omega
  have HX2 := hid hX2
  have HL2 := hid l2
  have hRl : R < w.heap.size := by
    have := HH.out.rc 0 hpos
    rw [List.getElem?_eq_getElem (by rw [HH.out.len]; exact hpos)] at this
    exact block_lt_of_cell this
  have src : ∀ (W : World), Below w.heap.size w W → ∀ i, i < L → W.cell? ⟨R, i, none⟩ = cs[i]? := fun W hb i hi => (hb.cell (p := ⟨R, i, none⟩) hRl).trans (HH.out.rc i hi)
  obtain ⟨w2, hr2, hG2, hb2⟩ := copy_run (W := w1.drew) (w0 := w) (B := w.heap.size) (G := w.heap.size) (off := 0) (dLen := 2 * L) (dCap := 2 * L) (sLen := L - head) (sCap := L - head) (sp := ⟨R, head, none⟩) (cur := Z) (cs := X1) HG.out
    (by rw [HL1.out]; exact (Nat.min_eq_left (by omega)).symm)
    (fun j v hj => by
      rw [Addr.add_lit]
      have hjl : j < L - head := by rw [← HL1.out]; exact (List.getElem?_eq_some_iff.1 hj).1
      rw [src w1.drew hb1.drew (head + j) (by omega), ← hj, ← HX1.out, List.getElem?_drop])
    (by rw [HL1.out, ← HZ.out]; simp; omega) (fun v hv => H1.out v (by rw [← HX1.out] at hv; exact List.mem_of_mem_drop hv)) hb1.drew (Nat.le_refl _)
  have e0 := (hb2.cell (p := ⟨Bq, 0, none⟩) hB).trans c0
  have e1 := (hb2.cell (p := ⟨Bq, 1, none⟩) hB).trans c1
  rw [HL1.out] at hr2
  have SRC := hid src
  have HG2 := hid hG2
  have HB2 := hid hb2
  have i0' : (0 : Int) ≤ (head : Int) := by omega
  have i1' : (head : Int) ≤ (L : Int) := by omega
  clear hZ hX1 l1 hX2 l2 src hG2
  go_wp2
  go_region_held3 (fun w' => w'.cell? ⟨Bq, 0, none⟩ = some (.slice (some ⟨R, 0, none⟩) L L) ∧ w'.cell? ⟨Bq, 1, none⟩ = some (.int .i64 head)) (go_keep) (fail)
  clear hr2
  have j0 : (0 : Int) ≤ ((L - head : Nat) : Int) := by omega
  have j1 : ((L - head : Nat) : Int) ≤ 2 * (L : Int) := by omega
  obtain ⟨w3, hr3, hG3, hb3⟩ := copy_run (W := w2.drew) (w0 := w) (B := w.heap.size) (G := w.heap.size) (off := L - head) (dLen := 2 * L - (L - head)) (dCap := 2 * L - (L - head)) (sLen := head) (sCap := L) (sp := ⟨R, 0, none⟩) (cur := splice Z 0 X1) (cs := X2) HG2.out
    (by rw [HL2.out]; exact (Nat.min_eq_left (by omega)).symm)
    (fun j v hj => by
      rw [Addr.add_lit]
      have hjl : j < head := by rw [← HL2.out]; exact (List.getElem?_eq_some_iff.1 hj).1
      rw [SRC.out w2.drew HB2.out.drew (0 + j) (by omega), ← hj, ← HX2.out, List.getElem?_take_of_lt hjl, Nat.zero_add])
    (by rw [HL2.out, length_splice _ _ _ (by rw [HL1.out, ← HZ.out]; simp; omega), ← HZ.out]; simp; omega) (fun v hv => H1.out v (by rw [← HX2.out] at hv; exact List.mem_of_mem_take hv)) HB2.out.drew (Nat.le_refl _)
  rw [HL2.out] at hr3
  have g0 := (hb3.cell (p := ⟨Bq, 0, none⟩) hB).trans c0
  have g1 := (hb3.cell (p := ⟨Bq, 1, none⟩) hB).trans c1
  have g2 := (hb3.cell (p := ⟨Bq, 2, none⟩) hB).trans c2
  have z0 := (hb3.frozen (p := ⟨Bq, 0, none⟩) hB).trans HH.out.f0
  have z1 := (hb3.frozen (p := ⟨Bq, 1, none⟩) hB).trans HH.out.f1
  have z2 := (hb3.frozen (p := ⟨Bq, 2, none⟩) hB).trans HH.out.f2
  have HG3 := hid hG3
  have HB3 := hid hb3
  clear hG3
  go_wp2
  go_region_held3 (fun w' => w'.cell? ⟨Bq, 0, none⟩ = some (.slice (some ⟨R, 0, none⟩) L L) ∧ w'.cell? ⟨Bq, 1, none⟩ = some (.int .i64 head)) (go_keep) (fail)
  clear hr3
  go_wp2
  go_end0
  refine ⟨rfl, ?_, ?_⟩
  · exact ((Only.of_below (S := fun k => k = Bq) HB3.out).setCell (p := ⟨Bq, 0, none⟩) (show Bq = Bq from rfl) _).setCell (p := ⟨Bq, 1, none⟩) (show Bq = Bq from rfl) _
  · have hrow : splice (splice Z 0 X1) (L - head) X2 = cs.drop head ++ cs.take head ++ List.replicate L .nilIface := by
      rw [two_splices Z X1 X2 (L - head) head HL1.out HL2.out (by rw [← HZ.out]; simp; omega), ← HZ.out, ← HX1.out, ← HX2.out, List.drop_replicate]
      congr 2
      omega
    have hg := HG3.out
    rw [hrow] at hg
    obtain ⟨rc, rf⟩ := row_cells (n := 2 * L) hg (by simp [HH.out.len]; omega) (by unfold maxLen; omega)
    have neG : w.heap.size ≠ Bq := by omega
    have ne : ∀ i j, (⟨Bq, i, none⟩ : Addr) ≠ ⟨w.heap.size, j, none⟩ := fun i j e => neG (congrArg Addr.block e).symm
    refine ⟨(cell_other (by simp)).trans (cell_same g0), cell_same ((cell_other (by simp)).trans g1), (cell_other (by simp)).trans ((cell_other (by simp)).trans g2), by simp [z0], by simp [z1], by simp [z2], by simp [HH.out.len]; omega,
      fun i hi => (cell_other (ne _ _)).trans ((cell_other (ne _ _)).trans (rc i hi)), fun i hi => by simp [rf i hi], neG⟩

set_option maxHeartbeats 2000000 in
/-- From no ring. -/
theorem grow_none (Bq : Nat) (w : World) (h : Q0 w Bq) :
    Calls Yba.prog 8 #[.pointer (some ⟨Bq, 0, none⟩)] w fun r w' => r = .returned (.tuple #[]) ∧ Only (fun k => k = Bq) w w' ∧ QR w' Bq w.heap.size 8 0 0 (List.replicate 8 .nilIface) := by
  obtain ⟨i0, hi, hz0, hz1, hz2⟩ := info_parts info20
  have c0 := h.c0
  have c1 := h.c1
  have c2 := h.c2
  have hB : Bq < w.heap.size := block_lt_of_cell c0
  have HH := hid h
  clear h
  go_enter Yba.func8, Yba.ntmps8
  go_wp2_with (at_make; refine wpList_make_full _ rfl _ _ 24 rfl w.heap.size 20 i0 _ 1 Yba.underlying24 hi hz0 hz1 _ _ _ _ 8 rfl rfl rfl rfl (by rw [hz2]; omega) (by unfold maxLen; omega) (Nat.le_refl _) ?_)
  intro w1 hown1 hgrow1
  have hG := made_row hown1
  have hb1 : Below w.heap.size w w1 := (Below.refl _ _).grown hgrow1 (Nat.le_refl _) (fun k h => by cases h)
  clear hown1 hgrow1
  have d0 := (hb1.cell (p := ⟨Bq, 0, none⟩) hB).trans c0
  have d1 := (hb1.cell (p := ⟨Bq, 1, none⟩) hB).trans c1
  have d2 := (hb1.cell (p := ⟨Bq, 2, none⟩) hB).trans c2
  have z0 := (hb1.frozen (p := ⟨Bq, 0, none⟩) hB).trans HH.out.f0
  have z1 := (hb1.frozen (p := ⟨Bq, 1, none⟩) hB).trans HH.out.f1
  have z2 := (hb1.frozen (p := ⟨Bq, 2, none⟩) hB).trans HH.out.f2
  have HG := hid hG
  have HB1 := hid hb1
  have hr : ∀ (dp : Option Addr) (n c : Nat) ty (W : World), (Builtin.copy_ #[24, 24] ty #[.slice dp n c, .slice none 0 0]).run Yba.prog W = .ok (.int .i64 0) W := fun dp n c ty W =>
    run_copy_none (P := Yba.prog) W 24 24 ty 20 dp none n c 0 0 Yba.underlying24 size20 (by simp)
  clear hG hb1
  go_wp2
  go_region_held3 (fun w' => w'.cell? ⟨Bq, 0, none⟩ = some (.slice none 0 0) ∧ w'.cell? ⟨Bq, 1, none⟩ = some (.int .i64 0)) (go_keep) (fail)
  go_wp2
  go_region_held3 (fun w' => w'.cell? ⟨Bq, 0, none⟩ = some (.slice none 0 0) ∧ w'.cell? ⟨Bq, 1, none⟩ = some (.int .i64 0)) (go_keep) (fail)
  go_wp2
  go_end0
  refine ⟨rfl, ?_, ?_⟩
  · exact (((Only.of_below (S := fun k => k = Bq) HB1.out).setCell (p := ⟨Bq, 0, none⟩) (show Bq = Bq from rfl) _).setCell (p := ⟨Bq, 1, none⟩) (show Bq = Bq from rfl) _).drew.drew
  · obtain ⟨rc, rf⟩ := row_cells (n := 8) HG.out (by simp) (by unfold maxLen; omega)
    have neG : w.heap.size ≠ Bq := by omega
    have ne : ∀ i j, (⟨Bq, i, none⟩ : Addr) ≠ ⟨w.heap.size, j, none⟩ := fun i j e => neG (congrArg Addr.block e).symm
    have q : QR ((w1.setCell ⟨Bq, 0, none⟩ (.slice (some ⟨w.heap.size, 0, none⟩) 8 8)).setCell ⟨Bq, 1, none⟩ (.int .i64 ((0 : Nat) : Int))) Bq w.heap.size 8 0 0 (List.replicate 8 .nilIface) :=
      ⟨(cell_other (by simp)).trans (cell_same d0), cell_same ((cell_other (by simp)).trans d1), (cell_other (by simp)).trans ((cell_other (by simp)).trans d2), by simp [z0], by simp [z1], by simp [z2], by simp,
        fun i hi => (cell_other (ne _ _)).trans ((cell_other (ne _ _)).trans (rc i hi)), fun i hi => by simp [rf i hi], neG⟩
    exact q.drew.drew
end Go.Proofs.Ybulkyzw
