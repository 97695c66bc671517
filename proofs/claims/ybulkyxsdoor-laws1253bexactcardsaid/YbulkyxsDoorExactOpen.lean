/- interlace.LawS1253BExact: the arguments and the listed variable, opened into what the walk asks. -/
import Derived.Test.YbulkyxsDoorExactWalk
import Derived.Test.YbulkyxsDoorNoneProof
import Derived.Deep.Slices
namespace Go.Proofs.YbulkyxsDoor
open Go.ChangeShapes Go.WideShapes Go.ChangeAt Go.RowKit Go.Deep

section
variable {H : Type} {enc : TypeId × Value → H} {w : World} {base : Nat} {spare : Nat → Bool} {held : Bool}

theorem u8_bounds {n : Int} (h : (Lit.int .u8 n).wf = true) : 0 ≤ n ∧ n ≤ 255 := by
  have e1 : IntKind.u8.min = 0 := rfl
  have e2 : IntKind.u8.max = 255 := rfl
  simp [Lit.wf, e1, e2] at h; omega

theorem cells86 : Ybad.prog.cellsOf 86 = 4 := by kernel_rfl
theorem cells5 : Ybad.prog.cellsOf 5 = 1 := by kernel_rfl
theorem cells112 : Ybad.prog.cellsOf 112 = 1 := by kernel_rfl
theorem cells121 : Ybad.prog.cellsOf 121 = 5 := by kernel_rfl
theorem cells122 : Ybad.prog.cellsOf 122 = 25 := by kernel_rfl

set_option maxRecDepth 100000 in
/-- One entry's cells, out of its reading. -/
theorem ent_of {fuel : Nat} {cs : List Value} {x : DataW H × List MemPlace} (h : DataW.trod enc Ybad.prog w base spare held fuel 86 cs = some x) :
    ∃ e : Ent, cs = [.string e.key, .string e.fin, .int .u8 e.kind, .int .u8 e.mode] ∧ e.fits := by
  obtain ⟨xs, n, _, _, hl, hxl, hf⟩ := DataW.trod_struct Ybad.underlying86 h
  rw [cells86] at hl
  match cs, hl, xs, hxl with
  | [v0, v1, v2, v3], _, [y0, y1, y2, y3], _ =>
    have g0 := hf 0 _ rfl
    have g1 := hf 1 _ rfl
    have g2 := hf 2 _ rfl
    have g3 := hf 3 _ rfl
    simp [cells9, cells5] at g0 g1 g2 g3
    obtain ⟨s0, c0, _, b0⟩ := DataW.trod_string Ybad.underlying9 g0
    obtain ⟨s1, c1, _, b1⟩ := DataW.trod_string Ybad.underlying9 g1
    obtain ⟨n2, c2, _, b2⟩ := DataW.trod_int Ybad.underlying5 g2
    obtain ⟨n3, c3, _, b3⟩ := DataW.trod_int Ybad.underlying5 g3
    have b2' := u8_bounds b2
    have b3' := u8_bounds b3
    refine ⟨⟨s0, s1, n2, n3⟩, ?_, b0, b1, b2'.1, b2'.2, b3'.1, b3'.2⟩
    simp at c0 c1 c2 c3
    simp [c0, c1, c2, c3]

/-- The slice of entries, opened. -/
theorem view_entries {fuel : Nat} {a0 : Option Addr} {len cap : Nat} {x : DataW H × List MemPlace}
    (h : DataW.trod enc Ybad.prog w 0 (fun _ => true) true fuel 84 (Value.slice a0 len cap).cells.toList = some x) :
    ∃ es : List Ent, es.length = len ∧ len ≤ maxLen ∧ (∀ e ∈ es, e.fits) ∧ Script w a0 es := by
  rcases open_slice Ybad.underlying84 h with ⟨hcs, _⟩ | ⟨a, len', cap', m, n, D, Pl, hcs, _, hl, hm, hmm, _, hx⟩
  · simp [Value.cells] at hcs
    obtain ⟨rfl, rfl, rfl⟩ := hcs
    exact ⟨[], rfl, Nat.zero_le _, (fun e he => by cases he), (fun h => by simp at h)⟩
  · simp [Value.cells] at hcs
    obtain ⟨rfl, rfl, rfl⟩ := hcs
    simp only [if_true] at hmm
    subst hmm
    have each : ∀ i, i < len → ∃ e : Ent, (∀ j, j < 4 → w.cell? (a.add (i * 4 + j)) = [Value.string e.key, .string e.fin, .int .u8 e.kind, .int .u8 e.mode][j]?) ∧ e.fits := by
      intro i hi
      obtain ⟨cs', h1, h2⟩ := hx i (by omega)
      rw [cells86] at h1
      obtain ⟨_, _, hcell⟩ := World.cells?_some h1
      obtain ⟨e, rfl, hf⟩ := ent_of h2
      refine ⟨e, fun j hj => ?_, hf⟩
      rw [← add_add]
      exact hcell j hj
    haveI : Inhabited Ent := ⟨⟨ByteArray.empty, ByteArray.empty, 0, 0⟩⟩
    obtain ⟨f, hf⟩ := choose_lt each
    refine ⟨(List.range len).map f, by simp, by omega, ?_, ?_⟩
    · intro e he
      obtain ⟨i, hi, rfl⟩ := List.mem_map.1 he
      exact (hf i (by simpa using hi)).2
    · intro h0
      simp at h0
      obtain ⟨b, off, sp⟩ := a
      have hsp : sp = none := by
        have := (hf 0 h0).1 0 (by omega)
        simpa [Addr.add] using World.cell?_spot this
      subst hsp
      refine ⟨b, off, rfl, fun i hi => ?_⟩
      have hi' : i < len := by simpa using hi
      have hc := (hf i hi').1
      have e0 := hc 0 (by omega)
      have e1 := hc 1 (by omega)
      have e2 := hc 2 (by omega)
      have e3 := hc 3 (by omega)
      rw [add_plain] at e0 e1 e2 e3
      simp only [List.getElem_map, List.getElem_range]
      exact ⟨by simpa using e0, by simpa [Nat.add_assoc] using e1, by simpa [Nat.add_assoc] using e2, by simpa [Nat.add_assoc] using e3⟩

/-- A row of the table. -/
theorem row_cells {fuel : Nat} {cs : List Value} {zs : List Int} {ps : List MemPlace} (h : DataW.trod enc Ybad.prog w base spare held fuel 121 cs = some (.agg (zs.map fun z => .lit (.int .i8 z)), ps)) :
    ∀ j, j < 5 → cs[j]? = some (.int .i8 (zs.getD j 0)) := by
  obtain ⟨ys, m, _, hx, hl, hn, hel⟩ := DataW.trod_array Ybad.underlying121 h
  rw [cells121] at hl
  intro j hj
  have hy := hel j hj
  rw [cells112, Nat.mul_one, List.getElem?_eq_getElem (by omega)] at hy
  obtain ⟨n, c, e, _⟩ := DataW.trod_int Ybad.underlying112 hy
  simp only [Prod.mk.injEq, DataW.agg.injEq] at hx
  have hj2 : (zs.map fun z => (DataW.lit (.int .i8 z) : DataW H))[j]? = (ys.map (·.1))[j]? := by rw [hx.1]
  rw [List.getElem?_map, List.getElem?_map, List.getElem?_eq_getElem (show j < ys.length by omega), e] at hj2
  have hcj : j < cs.length := by omega
  rw [List.drop_eq_getElem_cons hcj] at c
  have hc : cs[j] = .int .i8 n := Option.some.inj (congrArg List.head? c)
  rw [List.getElem?_eq_getElem hcj, hc]
  cases hz : zs[j]? with
  | none => simp [hz] at hj2
  | some z =>
    simp [hz] at hj2
    simp [List.getD, hz, hj2]

def rowsTab : List (List Int) := [[0, 0, 0, 0, 0], [0, 1, 2, 3, 2], [0, 2, 2, 2, 2], [0, 3, 2, 3, 2], [0, 2, 2, 2, 4]]

theorem tab_cells {fuel : Nat} {cs : List Value} {ps : List MemPlace} (h : DataW.trod enc Ybad.prog w base spare held fuel 122 cs = some (.agg (rowsTab.map fun zs => .agg (zs.map fun z => .lit (.int .i8 z))), ps)) :
    ∀ i, i < 5 → ∀ j, j < 5 → cs[i * 5 + j]? = some (.int .i8 ((rowsTab.getD i []).getD j 0)) := by
  obtain ⟨ys, m, _, hx, hl, hn, hel⟩ := DataW.trod_array Ybad.underlying122 h
  rw [cells122] at hl
  intro i hi j hj
  have hy := hel i hi
  rw [cells121, List.getElem?_eq_getElem (by omega)] at hy
  simp only [Prod.mk.injEq, DataW.agg.injEq] at hx
  have hi2 : (rowsTab.map fun zs => (DataW.agg (zs.map fun z => .lit (.int .i8 z)) : DataW H))[i]? = (ys.map (·.1))[i]? := by rw [hx.1]
  have hrl : i < rowsTab.length := hi
  rw [List.getElem?_map, List.getElem?_map, List.getElem?_eq_getElem (show i < ys.length by omega), List.getElem?_eq_getElem hrl] at hi2
  simp at hi2
  have hy' : DataW.trod enc Ybad.prog w base spare held m 121 ((cs.drop (i * 5)).take 5) = some (.agg ((rowsTab[i]).map fun z => .lit (.int .i8 z)), (ys[i]'(by omega)).2) := by
    rw [hy]
    exact congrArg some (Prod.ext hi2.symm rfl)
  have := row_cells hy' j hj
  rw [List.getElem?_take_of_lt hj, List.getElem?_drop] at this
  rw [this]
  simp [List.getD, List.getElem?_eq_getElem hrl]
end

theorem gJoined : ∀ n d, Rows.lawS1253BExactRow.laid = [(n, d)] → Ybad.prog.globalNamed n = some 1 ∧ (Ybad.prog.globals[1]?).map (·.type) = some 122 := by
  intro n d h
  have hn : n = (Rows.lawS1253BExactRow.laid.head?.map (·.1)).getD n := by rw [h]; rfl
  rw [hn]
  exact ⟨by kernel_rfl, by kernel_rfl⟩

/-- The listed variable holds the table. -/
theorem joins_of_laid {W : World} (h : laidMetH Ybad.prog Rows.lawS1253BExactRow.laid W) : Joins W := by
  rw [MakeChecks.laidMetH_plain _ _ _ (by kernel_rfl)] at h
  obtain ⟨ps, ⟨g0, t0, cs0, f0, p0, q0, hg0, ht0, hv0, hd0, _, _⟩, _, _⟩ := h
  obtain ⟨hg, ht⟩ := gJoined _ _ rfl
  obtain rfl := Option.some.inj (hg.symm.trans hg0)
  obtain rfl := Option.some.inj (ht.symm.trans ht0)
  have hT := tab_cells hd0
  intro i hi
  rw [World.var?_cell hg0 hv0 i]
  have := hT (i / 5) (by omega) (i % 5) (by omega)
  rw [show i / 5 * 5 + i % 5 = i by omega] at this
  rw [← Array.getElem?_toList, this]
  have hall : ∀ r, r < 5 → ∀ c, c < 5 → joinTab.getD (r * 5 + c) 0 = (rowsTab.getD r []).getD c 0 := by decide
  rw [← hall (i / 5) (by omega) (i % 5) (by omega), show i / 5 * 5 + i % 5 = i by omega]
end Go.Proofs.YbulkyxsDoor
