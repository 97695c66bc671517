/- The slice of puts, opened into what the walks ask. -/
import Derived.Test.YbulkyziMake
import Derived.Deep.Slices
import Derived.OpenShut
import Derived.ShutString
import Derived.ChangeOld
import Derived.SizedLaws
namespace Go.Proofs.Ybulkyzi
open Go.ChangeShapes Go.WideShapes Go.ChangeAt Go.RowKit Go.Deep

theorem own : ownKnob Yba.prog.godebug = none := by kernel_rfl
theorem laidOut : laidOutB Yba.prog = true := by kernel_rfl
theorem cells65 : Yba.prog.cellsOf 65 = 3 := by kernel_rfl
theorem cells9 : Yba.prog.cellsOf 9 = 1 := by kernel_rfl
theorem cells2 : Yba.prog.cellsOf 2 = 1 := by kernel_rfl

section
variable {H : Type} {enc : TypeId × Value → H} {w : World} {base : Nat} {spare : Nat → Bool} {held : Bool}

set_option maxRecDepth 100000 in
/-- One put's cells, out of its reading. -/
theorem put_of {fuel : Nat} {cs : List Value} {x : DataW H × List MemPlace} (h : DataW.trod enc Yba.prog w base spare held fuel 65 cs = some x) :
    ∃ p : Put, cs = [.int .i64 p.time, .string p.rep, .string p.text] := by
  obtain ⟨xs, n, _, _, hl, hxl, hf⟩ := DataW.trod_struct Yba.underlying65 h
  rw [cells65] at hl
  match cs, hl, xs, hxl with
  | [v0, v1, v2], _, [y0, y1, y2], _ =>
    have g0 := hf 0 _ rfl
    have g1 := hf 1 _ rfl
    have g2 := hf 2 _ rfl
    simp [cells9, cells2] at g0 g1 g2
    obtain ⟨n0, c0, _, _⟩ := DataW.trod_int Yba.underlying2 g0
    obtain ⟨s1, c1, _, _⟩ := DataW.trod_string Yba.underlying9 g1
    obtain ⟨s2, c2, _, _⟩ := DataW.trod_string Yba.underlying9 g2
    refine ⟨⟨n0, s1, s2⟩, ?_⟩
    simp at c0 c1 c2
    simp [c0, c1, c2]

/-- The slice of puts, opened. -/
theorem view_puts {fuel : Nat} {a0 : Option Addr} {len cap : Nat} {x : DataW H × List MemPlace}
    (h : DataW.trod enc Yba.prog w 0 (fun _ => true) true fuel 55 (Value.slice a0 len cap).cells.toList = some x) :
    ∃ ps : List Put, ps.length = len ∧ len ≤ maxLen ∧ Puts w a0 ps := by
  rcases open_slice Yba.underlying55 h with ⟨hcs, _⟩ | ⟨a, len', cap', m, n, D, Pl, hcs, _, hl, hm, hmm, _, hx⟩
  · simp [Value.cells] at hcs
    obtain ⟨rfl, rfl, rfl⟩ := hcs
    exact ⟨[], rfl, Nat.zero_le _, (fun h => by simp at h)⟩
  · simp [Value.cells] at hcs
    obtain ⟨rfl, rfl, rfl⟩ := hcs
    simp only [if_true] at hmm
    subst hmm
    have each : ∀ i, i < len → ∃ p : Put, ∀ j, j < 3 → w.cell? (a.add (i * 3 + j)) = [Value.int .i64 p.time, .string p.rep, .string p.text][j]? := by
      intro i hi
      obtain ⟨cs', h1, h2⟩ := hx i (by omega)
      rw [cells65] at h1
      obtain ⟨_, _, hcell⟩ := World.cells?_some h1
      obtain ⟨p, rfl⟩ := put_of h2
      refine ⟨p, fun j hj => ?_⟩
      rw [← add_add]
      exact hcell j hj
    haveI : Inhabited Put := ⟨⟨0, ByteArray.empty, ByteArray.empty⟩⟩
    obtain ⟨f, hf⟩ := choose_lt each
    refine ⟨(List.range len).map f, by simp, by omega, ?_⟩
    intro h0
    simp at h0
    obtain ⟨b, off, sp⟩ := a
    have hsp : sp = none := by
      have := (hf 0 h0) 0 (by omega)
      simpa [Addr.add] using World.cell?_spot this
    subst hsp
    refine ⟨b, off, rfl, fun i hi => ?_⟩
    have hi' : i < len := by simpa using hi
    have hc := hf i hi'
    have e0 := hc 0 (by omega)
    have e1 := hc 1 (by omega)
    have e2 := hc 2 (by omega)
    rw [add_plain] at e0 e1 e2
    simp only [List.getElem_map, List.getElem_range]
    exact ⟨by simpa using e0, by simpa [Nat.add_assoc] using e1, by simpa [Nat.add_assoc] using e2⟩
end
end Go.Proofs.Ybulkyzi
