/- LawS1253BExact: what its first loop carries, and one step of it. -/
import Derived.Test.YbulkyxsDoorJoin
import Derived.Test.YbulkyxsDoorTabs
namespace Go.Proofs.YbulkyxsDoor
open Go.RowKit

/-- Entry i lies at its four cells. -/
def Lies (w : World) (b off : Nat) (i : Nat) (e : Ent) : Prop :=
  w.cell? ⟨b, off + i * 4, none⟩ = some (.string e.key) ∧ w.cell? ⟨b, off + i * 4 + 1, none⟩ = some (.string e.fin) ∧ w.cell? ⟨b, off + i * 4 + 2, none⟩ = some (.int .u8 e.kind) ∧ w.cell? ⟨b, off + i * 4 + 3, none⟩ = some (.int .u8 e.mode)

theorem Lies.later {w w' : World} {b off i : Nat} {e : Ent} (h : Lies w b off i e) (hb : Below w.heap.size w w') : Lies w' b off i e := by
  obtain ⟨h0, h1, h2, h3⟩ := h
  have hl : b < w.heap.size := block_lt_of_cell h0
  exact ⟨(hb.cell (p := ⟨b, off + i * 4, none⟩) hl).trans h0, (hb.cell (p := ⟨b, off + i * 4 + 1, none⟩) hl).trans h1, (hb.cell (p := ⟨b, off + i * 4 + 2, none⟩) hl).trans h2, (hb.cell (p := ⟨b, off + i * 4 + 3, none⟩) hl).trans h3⟩

/-- The slice of entries, as it came in. -/
def Script (w : World) (a : Option Addr) (es : List Ent) : Prop := 0 < es.length → ∃ b off, a = some ⟨b, off, none⟩ ∧ ∀ i (h : i < es.length), Lies w b off i es[i]

theorem grown_cell {w w' : World} {g : Nat} (hg : w.grownBy w' (some g)) {p : Addr} {v : Value} (h : w.cell? p = some v) (hne : p.block ≠ g) : w'.cell? p = some v :=
  hg.cell h (fun e => hne (Option.some.inj e))

/-- What stands behind the first k entries. -/
structure Inv1 (w wr : World) (es : List Ent) (q : Ent) (k : Nat) : Prop where
  t0 : Tab0 wr (w.heap.size + 1) (es.take k)
  t1 : Tab1 wr (w.heap.size + 1 + 1) (es.take k)
  l0 : wr.cell? ⟨w.heap.size + 1 + 1 + 1, 0, none⟩ = some (.map (some (w.heap.size + 1)))
  l1 : wr.cell? ⟨w.heap.size + 1 + 1 + 1, 1, none⟩ = some (.map (some (w.heap.size + 1 + 1)))
  q0 : wr.cell? ⟨w.heap.size, 0, none⟩ = some (.string q.key)
  q1 : wr.cell? ⟨w.heap.size, 1, none⟩ = some (.string q.fin)
  q2 : wr.cell? ⟨w.heap.size, 2, none⟩ = some (.int .u8 q.kind)
  q3 : wr.cell? ⟨w.heap.size, 3, none⟩ = some (.int .u8 q.mode)
  old : Below w.heap.size w wr

/-- Later worlds in which all that lay lies still. -/
theorem Inv1.later {w wr w1 : World} {es : List Ent} {q : Ent} {k : Nat} (I : Inv1 w wr es q k) (hb : Below wr.heap.size wr w1) : Inv1 w w1 es q k := by
  obtain ⟨t0, t1, l0, l1, q0, q1, q2, q3, old⟩ := I
  have c : ∀ {p : Addr} {v : Value}, wr.cell? p = some v → w1.cell? p = some v := fun {p v} h => (hb.cell (block_lt_of_cell h)).trans h
  exact ⟨t0.kept (hb.block _ t0.lt), t1.kept (hb.block _ t1.lt), c l0, c l1, c q0, c q1, c q2, c q3, old.trans (hb.mono old.size)⟩

/-- One entry more: the world behind the store. -/
theorem Inv1.next {w wr W w1 : World} {es : List Ent} {q : Ent} {k g : Nat} (I : Inv1 w wr es q k) (hk : k < es.length) (hb : Below wr.heap.size wr W) (hg : W.drew.grownBy w1 (some g))
    (hcase : (g = w.heap.size + 1 ∧ es[k].kind % 3 = 0 ∧ Tab0 w1 (w.heap.size + 1) (es.take k ++ [es[k]])) ∨ (g = w.heap.size + 1 + 1 ∧ ¬ es[k].kind % 3 = 0 ∧ Tab1 w1 (w.heap.size + 1 + 1) (es.take k ++ [es[k]]))) :
    Inv1 w w1 es q (k + 1) := by
  obtain ⟨t0, t1, l0, l1, q0, q1, q2, q3, old⟩ := I.later (w1 := W.drew) hb.drew
  have hsn : es.take (k + 1) = es.take k ++ [es[k]] := List.take_succ_eq_append_getElem hk
  have hlt0 := t0.lt
  have hlt1 := t1.lt
  have hgN : w.heap.size + 1 ≤ g := by rcases hcase with ⟨h, _⟩ | ⟨h, _⟩ <;> omega
  have hgM : g ≤ w.heap.size + 1 + 1 := by rcases hcase with ⟨h, _⟩ | ⟨h, _⟩ <;> omega
  have old' : Below w.heap.size w w1 := old.grown hg old.size (fun j hj => by cases hj; omega)
  refine ⟨?_, ?_, grown_cell hg l0 (by simp; omega), grown_cell hg l1 (by simp; omega), grown_cell hg q0 (by simp; omega), grown_cell hg q1 (by simp; omega), grown_cell hg q2 (by simp; omega), grown_cell hg q3 (by simp; omega), old'⟩
  · rw [hsn]
    rcases hcase with ⟨_, _, h⟩ | ⟨h1, h2, _⟩
    · exact h
    · exact (t0.kept (hg.block _ hlt0 (by simp; omega))).skip _ h2
  · rw [hsn]
    rcases hcase with ⟨h1, h2, _⟩ | ⟨_, _, h⟩
    · exact (t1.kept (hg.block _ hlt1 (by simp; omega))).skip _ h2
    · exact h

/-- The world in which the first loop begins. -/
theorem inv1_start (w : World) (es : List Ent) (q : Ent) (r : List Value) :
    Inv1 w ((((w.alloc (.cells #[.string q.key, .string q.fin, .int .u8 q.kind, .int .u8 q.mode] 86)).alloc (.map #[] 0)).alloc (.map #[] 0)).alloc (.cells ⟨.map (some (w.heap.size + 1)) :: .map (some (w.heap.size + 1 + 1)) :: r⟩ 96)) es q 0 := by
  obtain ⟨W0, h0⟩ : ∃ W0, w.alloc (.cells #[.string q.key, .string q.fin, .int .u8 q.kind, .int .u8 q.mode] 86) = W0 := ⟨_, rfl⟩
  have s0 : W0.heap.size = w.heap.size + 1 := by rw [← h0]; simp
  have b0 : Below w.heap.size w W0 := by rw [← h0]; exact (Below.refl _ _).alloc (Nat.le_refl _) _
  have c0 : W0.cell? ⟨w.heap.size, 0, none⟩ = some (.string q.key) := by rw [← h0]; simp
  have c1 : W0.cell? ⟨w.heap.size, 1, none⟩ = some (.string q.fin) := by rw [← h0]; simp
  have c2 : W0.cell? ⟨w.heap.size, 2, none⟩ = some (.int .u8 q.kind) := by rw [← h0]; simp
  have c3 : W0.cell? ⟨w.heap.size, 3, none⟩ = some (.int .u8 q.mode) := by rw [← h0]; simp
  rw [h0]
  clear h0
  have t0 := tab0_made W0
  rw [s0] at t0
  obtain ⟨W1, h1⟩ : ∃ W1, W0.alloc (.map #[] 0) = W1 := ⟨_, rfl⟩
  have s1 : W1.heap.size = w.heap.size + 1 + 1 := by rw [← h1]; simp [s0]
  have b1 : Below W0.heap.size W0 W1 := by rw [← h1]; exact (Below.refl _ _).alloc (Nat.le_refl _) _
  rw [h1] at t0 ⊢
  clear h1
  have t1 := tab1_made W1
  rw [s1] at t1
  obtain ⟨W2, h2⟩ : ∃ W2, W1.alloc (.map #[] 0) = W2 := ⟨_, rfl⟩
  have s2 : W2.heap.size = w.heap.size + 1 + 1 + 1 := by rw [← h2]; simp [s1]
  have b2 : Below W1.heap.size W1 W2 := by rw [← h2]; exact (Below.refl _ _).alloc (Nat.le_refl _) _
  rw [h2] at t1 ⊢
  clear h2
  have b3 : Below W2.heap.size W2 (W2.alloc (.cells ⟨.map (some (w.heap.size + 1)) :: .map (some (w.heap.size + 1 + 1)) :: r⟩ 96)) := (Below.refl _ _).alloc (Nat.le_refl _) _
  have B02 := b1.trans (b2.mono b1.size)
  have B03 := B02.trans (b3.mono B02.size)
  have B13 := b2.trans (b3.mono b2.size)
  have c : ∀ {p : Addr} {v : Value}, W0.cell? p = some v → _ := fun {p v} h => (B03.cell (block_lt_of_cell h)).trans h
  refine ⟨t0.kept (B13.block _ t0.lt), t1.kept (b3.block _ t1.lt), ?_, ?_, c c0, c c1, c c2, c c3, b0.trans (B03.mono b0.size)⟩
  · rw [← s2]; simp
  · rw [← s2]; simp
end Go.Proofs.YbulkyxsDoor

namespace Go.Proofs.YbulkyxsDoor
open Go.RowKit
/-- What 'needs' says, from what stands at the span. -/
def gotI (o : Option Int) (m : Int) : Int := match o with | none => m | some h => joinI h m
def needB (o : Option Int) (m : Int) : Bool := match o with | none => true | some h => joinI h m != h

/-- (*Txn).needs over the two filled tables. -/
theorem needs_look {w W : World} {es : List Ent} {q : Ent} {Bt : Nat} (I : Inv1 w W es q es.length) (hs : W.cell? ⟨Bt, 9, none⟩ = some (.iface 87 (.pointer (some ⟨w.heap.size + 1 + 1 + 1, 0, none⟩)))) (hJ : Joins w)
    (k f : ByteArray) (kd m : Int) (hk : k.size ≤ maxLen) (hf : f.size ≤ maxLen) (hkd : 0 ≤ kd ∧ kd ≤ 2) (hm : 1 ≤ m ∧ m ≤ 4) :
    Calls Ybad.prog 12 #[.pointer (some ⟨Bt, 0, none⟩), .agg #[.string k, .string f, .int .i8 kd], .int .i8 m] W fun r w' => r = .returned (.tuple #[.int .i8 (gotI (look es k f kd) m), .bool (needB (look es k f kd) m)]) ∧ Below W.heap.size W w' := by
  have hj : 1 < w.heap.size := block_lt_of_cell (hJ 0 (by omega))
  have hJ' : Joins W := fun i hi => (I.old.cell (p := ⟨1, i, none⟩) hj).trans (hJ i hi)
  have hjW : 1 < W.heap.size := Nat.lt_of_lt_of_le hj I.old.size
  have hbt := block_lt_of_cell hs
  have hH : ∀ V, Below W.heap.size W V → Calls Ybad.prog 17 #[.pointer (some ⟨Bt, 0, none⟩), .agg #[.string k, .string f, .int .i8 kd]] V fun r w' => r = .returned (.tuple #[.int .i8 ((look es k f kd).getD 0), .bool (look es k f kd).isSome]) ∧ Below V.heap.size V w' := by
    intro V hb
    have hs' := (hb.cell (p := ⟨Bt, 9, none⟩) hbt).trans hs
    have IV := I.later hb
    by_cases h0 : kd = 0
    · subst h0
      refine held_key Bt _ _ k f V _ _ hs' IV.l0 (fun X hX => ?_)
      have := (IV.later hX).t0
      rw [List.take_length] at this
      exact this.lookup k f hk
    · refine held_wide Bt _ _ k f kd V _ _ h0 hs' IV.l1 (fun X hX => ?_)
      have := (IV.later hX).t1
      rw [List.take_length] at this
      exact this.lookup k f kd h0 hk hf (wf_i8 (by omega))
  cases hl : look es k f kd with
  | none =>
    rw [hl] at hH
    exact needs_no Bt k f kd m 0 W hH
  | some h =>
    rw [hl] at hH
    exact needs_yes Bt k f kd m h W (look_mode es k f kd h hl) hm hH hjW hJ'
end Go.Proofs.YbulkyxsDoor

namespace Go.Proofs.YbulkyxsDoor
theorem same_of {a b : ByteArray} (h : (!a.toList == b.toList) = false) : a = b := by
  have h' : a.toList = b.toList := by simpa using h
  rw [ByteArray.toList_eq, ByteArray.toList_eq] at h'
  cases a; cases b
  exact congrArg ByteArray.mk (Array.toList_inj.1 h')
theorem other_of {a b : ByteArray} (h : (!a.toList == b.toList) = true) : ¬ a = b := by
  intro e
  subst e
  simp at h
theorem fin_of {a b : ByteArray} {kd : Int} (hz : ¬ kd = 0) (h : (kd != 0) = false ∨ (!a.toList == b.toList) = false) : (!a.toList == b.toList) = false := by
  rcases h with h | h
  · simp at h; exact absurd h hz
  · exact h
theorem hit_kind {e : Ent} {k f : ByteArray} {kd : Int} (h : ¬ e.kind % 3 = kd) : ¬ e.hit k f kd = true := by simp [Ent.hit, h]
theorem hit_key {e : Ent} {k f : ByteArray} {kd : Int} (h : (!e.key.toList == k.toList) = true) : ¬ e.hit k f kd = true := by simp [Ent.hit, other_of h]
theorem hit_fin {e : Ent} {k f : ByteArray} {kd : Int} (hz : ¬ kd = 0) (h : (!e.fin.toList == f.toList) = true) : ¬ e.hit k f kd = true := by simp [Ent.hit, hz, other_of h]
theorem hit_zero {e : Ent} {k f : ByteArray} (h1 : e.kind % 3 = 0) (h2 : (!e.key.toList == k.toList) = false) : e.hit k f 0 = true := by simp [Ent.hit, h1, same_of h2]
theorem hit_all {e : Ent} {k f : ByteArray} {kd : Int} (h1 : e.kind % 3 = kd) (h2 : (!e.key.toList == k.toList) = false) (h3 : (!e.fin.toList == f.toList) = false) : e.hit k f kd = true := by simp [Ent.hit, h1, same_of h2, same_of h3]
end Go.Proofs.YbulkyxsDoor
