/- The queue's methods: len, at, popKeeping, over the ring as it lies in memory. -/
import Derived.Test.YbulkyzwRows
import Derived.Test.YbulkyzwPlain
import Derived.ProofKit
import Derived.WalkSmall
import Derived.WalkLawsBesides
import Derived.Deep.QuietTactic
import Derived.BigQuiet
import Derived.Deep.RegionHeld3
namespace Go.Proofs.Ybulkyzw
open Go.RowKit

theorem hid {p : Prop} (h : p) : Hid p := h

/-- The queue at block Bq, its ring of L slots at block R, the slots' contents cs. -/
structure QR (w : World) (Bq R L head n : Nat) (cs : List Value) : Prop where
  c0 : w.cell? ⟨Bq, 0, none⟩ = some (.slice (some ⟨R, 0, none⟩) L L)
  c1 : w.cell? ⟨Bq, 1, none⟩ = some (.int .i64 head)
  c2 : w.cell? ⟨Bq, 2, none⟩ = some (.int .i64 n)
  f0 : w.frozen? ⟨Bq, 0, none⟩ = false
  f1 : w.frozen? ⟨Bq, 1, none⟩ = false
  f2 : w.frozen? ⟨Bq, 2, none⟩ = false
  len : cs.length = L
  rc : ∀ i, i < L → w.cell? ⟨R, i, none⟩ = cs[i]?
  rf : ∀ i, i < L → w.frozen? ⟨R, i, none⟩ = false
  ne : R ≠ Bq

/-- The queue at block Bq, empty and without a ring. -/
structure Q0 (w : World) (Bq : Nat) : Prop where
  c0 : w.cell? ⟨Bq, 0, none⟩ = some (.slice none 0 0)
  c1 : w.cell? ⟨Bq, 1, none⟩ = some (.int .i64 0)
  c2 : w.cell? ⟨Bq, 2, none⟩ = some (.int .i64 0)
  f0 : w.frozen? ⟨Bq, 0, none⟩ = false
  f1 : w.frozen? ⟨Bq, 1, none⟩ = false
  f2 : w.frozen? ⟨Bq, 2, none⟩ = false

/-- Only blocks of S, and new ones, have turned. -/
structure Only (S : Nat → Prop) (w w' : World) : Prop where
  os : w'.os = w.os
  tape : w'.tape = w.tape
  output : w'.output = w.output
  size : w.heap.size ≤ w'.heap.size
  block : ∀ k, k < w.heap.size → ¬ S k → w'.heap[k]? = w.heap[k]?

theorem Only.refl (S : Nat → Prop) (w : World) : Only S w w := ⟨rfl, rfl, rfl, Nat.le_refl _, fun _ _ _ => rfl⟩
theorem Only.trans {S : Nat → Prop} {a b c : World} (h : Only S a b) (k : Only S b c) : Only S a c :=
  ⟨k.os.trans h.os, k.tape.trans h.tape, k.output.trans h.output, Nat.le_trans h.size k.size, fun i hi hs => (k.block i (Nat.lt_of_lt_of_le hi h.size) hs).trans (h.block i hi hs)⟩
theorem Only.drewN {S : Nat → Prop} {a b : World} (h : Only S a b) (n : Nat) : Only S a (b.drewN n) := h.trans ⟨rfl, rfl, rfl, Nat.le_refl _, fun _ _ _ => rfl⟩
theorem Only.drew {S : Nat → Prop} {a b : World} (h : Only S a b) : Only S a b.drew := h.trans ⟨rfl, rfl, rfl, Nat.le_refl _, fun _ _ _ => rfl⟩
theorem Only.setCell {S : Nat → Prop} {a b : World} (h : Only S a b) {p : Addr} (hp : S p.block) (v : Value) : Only S a (b.setCell p v) :=
  h.trans ⟨rfl, rfl, rfl, by simp [World.setCell], fun k _ hs => Below.heap_setCell _ _ _ _ (fun e => hs (e ▸ hp))⟩
theorem Only.of_below {S : Nat → Prop} {w w' : World} (h : Below w.heap.size w w') : Only S w w' := ⟨h.os, h.tape, h.output, h.size, fun k hk _ => h.block k hk⟩
theorem Only.mono {S T : Nat → Prop} {w w' : World} (h : Only S w w') (hS : ∀ k, S k → T k) : Only T w w' := ⟨h.os, h.tape, h.output, h.size, fun k hk hs => h.block k hk (fun s => hs (hS k s))⟩
theorem Only.below {S : Nat → Prop} {N : Nat} {w0 w w' : World} (h : Only S w w') (hb : Below N w0 w) (hN : N ≤ w.heap.size) (hS : ∀ k, S k → N ≤ k) : Below N w0 w' :=
  hb.trans ⟨h.os, h.tape, h.output, h.size, fun k hk => h.block k (by omega) (fun s => by have := hS k s; omega)⟩
theorem Only.cell {S : Nat → Prop} {w w' : World} (h : Only S w w') {p : Addr} {v : Value} (hc : w.cell? p = some v) (hs : ¬ S p.block) : w'.cell? p = some v := by
  rw [World.cell?_of_block (w := w) (h.block p.block (block_lt_of_cell hc) hs)]; exact hc
theorem Only.frozen {S : Nat → Prop} {w w' : World} (h : Only S w w') {p : Addr} {b : Bool} (hl : p.block < w.heap.size) (hc : w.frozen? p = b) (hs : ¬ S p.block) : w'.frozen? p = b := by
  rw [World.frozen?_of_block (w := w) (h.block p.block hl hs)]; exact hc

theorem cell_other {w : World} {a b : Addr} {x : Value} (h : a ≠ b) : (w.setCell a x).cell? b = w.cell? b := World.cell?_setCell_other _ _ _ _ h
theorem cell_same {w : World} {a : Addr} {x u : Value} (h : w.cell? a = some u) : (w.setCell a x).cell? a = some x := World.cell?_setCell_same _ _ _ h

theorem QR.drewN {w : World} {Bq R L head n : Nat} {cs : List Value} (h : QR w Bq R L head n cs) (k : Nat) : QR (w.drewN k) Bq R L head n cs := ⟨h.c0, h.c1, h.c2, h.f0, h.f1, h.f2, h.len, h.rc, h.rf, h.ne⟩
theorem QR.drew {w : World} {Bq R L head n : Nat} {cs : List Value} (h : QR w Bq R L head n cs) : QR w.drew Bq R L head n cs := ⟨h.c0, h.c1, h.c2, h.f0, h.f1, h.f2, h.len, h.rc, h.rf, h.ne⟩
theorem Q0.drew {w : World} {Bq : Nat} (h : Q0 w Bq) : Q0 w.drew Bq := ⟨h.c0, h.c1, h.c2, h.f0, h.f1, h.f2⟩

/-- A slot written. -/
theorem QR.slot {w : World} {Bq R L head n : Nat} {cs : List Value} (h : QR w Bq R L head n cs) (i : Nat) (hi : i < L) (v : Value) : QR (w.setCell ⟨R, i, none⟩ v) Bq R L head n (cs.set i v) := by
  have ne : ∀ j, (⟨R, i, none⟩ : Addr) ≠ ⟨Bq, j, none⟩ := fun j e => h.ne (congrArg Addr.block e)
  have hil : i < cs.length := by rw [h.len]; exact hi
  refine ⟨(cell_other (ne _)).trans h.c0, (cell_other (ne _)).trans h.c1, (cell_other (ne _)).trans h.c2, by simp [h.f0], by simp [h.f1], by simp [h.f2], by simp [h.len], fun j hj => ?_, fun j hj => by simp [h.rf j hj], h.ne⟩
  by_cases e : i = j
  · subst e
    rw [List.getElem?_set_self hil]
    have := h.rc i hi
    rw [List.getElem?_eq_getElem hil] at this
    exact cell_same this
  · rw [List.getElem?_set_ne e, cell_other (fun x => e (congrArg Addr.off x))]
    exact h.rc j hj
/-- The head written. -/
theorem QR.setHead {w : World} {Bq R L head n : Nat} {cs : List Value} (h : QR w Bq R L head n cs) (k : Nat) : QR (w.setCell ⟨Bq, 1, none⟩ (.int .i64 k)) Bq R L k n cs := by
  have ne : ∀ j, (⟨Bq, 1, none⟩ : Addr) ≠ ⟨R, j, none⟩ := fun j e => h.ne (congrArg Addr.block e).symm
  exact ⟨(cell_other (by simp)).trans h.c0, cell_same h.c1, (cell_other (by simp)).trans h.c2, by simp [h.f0], by simp [h.f1], by simp [h.f2], h.len, fun j hj => (cell_other (ne j)).trans (h.rc j hj), fun j hj => by simp [h.rf j hj], h.ne⟩
/-- The count written. -/
theorem QR.setCount {w : World} {Bq R L head n : Nat} {cs : List Value} (h : QR w Bq R L head n cs) (k : Nat) : QR (w.setCell ⟨Bq, 2, none⟩ (.int .i64 k)) Bq R L head k cs := by
  have ne : ∀ j, (⟨Bq, 2, none⟩ : Addr) ≠ ⟨R, j, none⟩ := fun j e => h.ne (congrArg Addr.block e).symm
  exact ⟨(cell_other (by simp)).trans h.c0, (cell_other (by simp)).trans h.c1, cell_same h.c2, by simp [h.f0], by simp [h.f1], by simp [h.f2], h.len, fun j hj => (cell_other (ne j)).trans (h.rc j hj), fun j hj => by simp [h.rf j hj], h.ne⟩
/-- The ring let go. -/
theorem QR.letGo {w : World} {Bq R L : Nat} {cs : List Value} (h : QR w Bq R L 0 0 cs) : Q0 (w.setCell ⟨Bq, 0, none⟩ (.slice none 0 0)) Bq :=
  ⟨cell_same h.c0, (cell_other (by simp)).trans h.c1, (cell_other (by simp)).trans h.c2, by simp [h.f0], by simp [h.f1], by simp [h.f2]⟩

theorem QR.kept {S : Nat → Prop} {w w' : World} {Bq R L head n : Nat} {cs : List Value} (h : QR w Bq R L head n cs) (ho : Only S w w') (h1 : ¬ S Bq) (h2 : ¬ S R) (hR : 0 < L) : QR w' Bq R L head n cs := by
  have hB : Bq < w.heap.size := block_lt_of_cell h.c0
  have hRl : R < w.heap.size := by
    have := h.rc 0 hR
    rw [List.getElem?_eq_getElem (by rw [h.len]; exact hR)] at this
    exact block_lt_of_cell this
  refine ⟨ho.cell h.c0 h1, ho.cell h.c1 h1, ho.cell h.c2 h1, ho.frozen (p := ⟨Bq, 0, none⟩) hB h.f0 h1, ho.frozen (p := ⟨Bq, 1, none⟩) hB h.f1 h1, ho.frozen (p := ⟨Bq, 2, none⟩) hB h.f2 h1, h.len, fun i hi => ?_, fun i hi => ho.frozen (p := ⟨R, i, none⟩) hRl (h.rf i hi) h2, h.ne⟩
  rw [← h.rc i hi]
  exact World.cell?_of_block (w := w) (ho.block R hRl h2)
theorem Q0.kept {S : Nat → Prop} {w w' : World} {Bq : Nat} (h : Q0 w Bq) (ho : Only S w w') (h1 : ¬ S Bq) : Q0 w' Bq := by
  have hB : Bq < w.heap.size := block_lt_of_cell h.c0
  exact ⟨ho.cell h.c0 h1, ho.cell h.c1 h1, ho.cell h.c2 h1, ho.frozen (p := ⟨Bq, 0, none⟩) hB h.f0 h1, ho.frozen (p := ⟨Bq, 1, none⟩) hB h.f1 h1, ho.frozen (p := ⟨Bq, 2, none⟩) hB h.f2 h1⟩

/-- (*queue).len -/
theorem len_any (Bq n : Nat) (w : World) (c2 : w.cell? ⟨Bq, 2, none⟩ = some (.int .i64 n)) : Calls Yba.prog 6 #[.pointer (some ⟨Bq, 0, none⟩)] w fun e w' => e = .returned (.int .i64 n) ∧ w' = w := by
  go_enter Yba.func6, Yba.ntmps6
  go_wp2
  go_ret
  exact ⟨rfl, rfl⟩

set_option maxHeartbeats 1000000 in
/-- (*queue).at -/
theorem at_any (Bq R L e head n i : Nat) (cs : List Value) (v : Value) (w : World) (h : QR w Bq R L head n cs) (hL : L = 2 ^ e) (he : e ≤ 12) (hh : head < L) (hi : i ≤ L) (hv : cs[(head + i) % L]? = some v) :
    Calls Yba.prog 7 #[.pointer (some ⟨Bq, 0, none⟩), .int .i64 i] w fun r w' => r = .returned v ∧ ∃ k, w' = w.drewN k := by
  have hpos : 0 < L := by rw [hL]; exact Nat.two_pow_pos e
  have hle : L ≤ 4096 := by rw [hL]; exact Nat.pow_le_pow_right (by omega) he
  have hm := mask_wrap ((head : Int) + (i : Int)) ((L : Int) - 1) (head + i) L e (by omega) rfl hL he (by omega)
  obtain ⟨K, hK⟩ : ∃ K, (head + i) % L = K := ⟨_, rfl⟩
  have hKL : K < L := by rw [← hK]; exact Nat.mod_lt _ hpos
  rw [hK] at hm hv
  have ck := (h.rc K hKL).trans hv
  have i0 : (0 : Int) ≤ (K : Int) := by omega
  have i1 : (K : Int) < (L : Int) := by omega
  have c0 := h.c0
  have c1 := h.c1
  have HL := hid hL
  clear h hL hK hv
  go_enter Yba.func7, Yba.ntmps7
  go_wp2
  go_quiet (fail)
  go_wp2
  go_ret
  exact ⟨rfl, _, rfl⟩
end Go.Proofs.Ybulkyzw
