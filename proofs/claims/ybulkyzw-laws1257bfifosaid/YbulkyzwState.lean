/- The queue's state against the plain list of its messages; push and popKeeping over it. -/
import Derived.Test.YbulkyzwPush
import Derived.Test.YbulkyzwPop
namespace Go.Proofs.Ybulkyzw
open Go.RowKit

def msgV (x : Int) : Value := .iface 3 (.int .i64 x)

/-- The ring's slots hold the messages vs, the oldest at head. -/
structure Fill (L e head : Nat) (cs : List Value) (vs : List Int) : Prop where
  pow : L = 2 ^ e
  e3 : 3 ≤ e
  e10 : e ≤ 10
  hh : head < L
  le : vs.length ≤ L
  len : cs.length = L
  one : ∀ v ∈ cs, v.oneCell' = true
  at_ : ∀ i (h : i < vs.length), cs[(head + i) % L]? = some (msgV vs[i])

theorem mem_set_one {cs : List Value} {i : Nat} {v : Value} (h : ∀ u ∈ cs, u.oneCell' = true) (hv : v.oneCell' = true) : ∀ u ∈ cs.set i v, u.oneCell' = true := by
  intro u hu
  rcases List.mem_or_eq_of_mem_set hu with h1 | rfl
  · exact h u h1
  · exact hv

theorem mod_ne {L head i j : Nat} (hh : head < L) (hij : i < j) (hj : j < L) : (head + i) % L ≠ (head + j) % L := by
  intro h
  have hL : 0 < L := by omega
  by_cases h1 : head + i < L <;> by_cases h2 : head + j < L
  · rw [Nat.mod_eq_of_lt h1, Nat.mod_eq_of_lt h2] at h; omega
  · rw [Nat.mod_eq_of_lt h1, Nat.mod_eq_sub_mod (by omega), Nat.mod_eq_of_lt (by omega)] at h; omega
  · omega
  · rw [Nat.mod_eq_sub_mod (by omega), Nat.mod_eq_of_lt (by omega), Nat.mod_eq_sub_mod (a := head + j) (by omega), Nat.mod_eq_of_lt (by omega)] at h; omega

/-- A message more, where there is room. -/
theorem Fill.push {L e head : Nat} {cs : List Value} {vs : List Int} (F : Fill L e head cs vs) (hn : vs.length < L) (x : Int) : Fill L e head (cs.set ((head + vs.length) % L) (msgV x)) (vs ++ [x]) := by
  have hL : 0 < L := by omega
  refine ⟨F.pow, F.e3, F.e10, F.hh, by simp; omega, by simp [F.len], mem_set_one F.one rfl, fun i hi => ?_⟩
  by_cases h : i < vs.length
  · rw [List.getElem?_set_ne (mod_ne F.hh h hn).symm, List.getElem_append_left h]
    exact F.at_ i h
  · have e1 : i = vs.length := by simp at hi; omega
    subst e1
    rw [List.getElem?_set_self (by rw [F.len]; exact Nat.mod_lt _ hL)]
    simp

/-- A full ring turned and doubled. -/
theorem turned_at {L head : Nat} {cs : List Value} (hl : cs.length = L) (hh : head < L) (t : List Value) (i : Nat) (hi : i < L) : (cs.drop head ++ cs.take head ++ t)[i]? = cs[(head + i) % L]? := by
  rw [List.getElem?_append_left (by simp [hl]; omega)]
  by_cases h : i < L - head
  · rw [List.getElem?_append_left (by simp [hl]; omega), List.getElem?_drop, Nat.mod_eq_of_lt (by omega)]
  · rw [List.getElem?_append_right (by simp [hl]; omega), List.length_drop, hl, List.getElem?_take_of_lt (by omega), Nat.mod_eq_sub_mod (by omega), Nat.mod_eq_of_lt (by omega)]
    congr 1
    omega
theorem Fill.full {L e head : Nat} {cs : List Value} {vs : List Int} (F : Fill L e head cs vs) (hn : vs.length = L) (he : e ≤ 9) (x : Int) :
    Fill (2 * L) (e + 1) 0 ((cs.drop head ++ cs.take head ++ List.replicate L Value.nilIface).set L (msgV x)) (vs ++ [x]) := by
  have hpos : 0 < L := by have := F.hh; omega
  refine ⟨by rw [F.pow, Nat.pow_succ]; omega, by have := F.e3; omega, by omega, by omega, by simp; omega, by simp [F.len]; have := F.hh; omega, mem_set_one ?_ rfl, fun i hi => ?_⟩
  · intro v hv
    simp at hv
    rcases hv with hv | hv | hv
    · exact F.one v (List.mem_of_mem_drop hv)
    · exact F.one v (List.mem_of_mem_take hv)
    · rw [hv.2]; rfl
  · have hi2 : i ≤ L := by simp at hi; omega
    rw [Nat.zero_add, Nat.mod_eq_of_lt (by omega)]
    by_cases h : i < L
    · rw [List.getElem?_set_ne (by omega), turned_at F.len F.hh _ i h, List.getElem_append_left (by omega)]
      exact F.at_ i (by omega)
    · have e1 : i = L := by omega
      subst e1
      rw [List.getElem?_set_self (by simp [F.len]; have := F.hh; omega)]
      congr 1
      rw [List.getElem_append_right (by omega)]
      simp
theorem fill_one (x : Int) : Fill 8 3 0 ((List.replicate 8 Value.nilIface).set 0 (msgV x)) [x] := by
  refine ⟨rfl, by omega, by omega, by omega, by simp, by simp, mem_set_one (fun v hv => ?_) rfl, fun i hi => ?_⟩
  · rw [List.eq_of_mem_replicate hv]; rfl
  · have : i = 0 := by simp at hi; omega
    subst this
    rfl
/-- The oldest message taken. -/
theorem Fill.pop {L e head : Nat} {cs : List Value} {x : Int} {vs : List Int} (F : Fill L e head cs (x :: vs)) : Fill L e ((head + 1) % L) (cs.set head .nilIface) vs := by
  have hpos : 0 < L := by have := F.hh; omega
  have hle : vs.length + 1 ≤ L := by simpa using F.le
  refine ⟨F.pow, F.e3, F.e10, Nat.mod_lt _ hpos, by omega, by simp [F.len], mem_set_one F.one rfl, fun i hi => ?_⟩
  have e1 : ((head + 1) % L + i) % L = (head + (i + 1)) % L := by rw [Nat.add_mod, Nat.mod_mod, ← Nat.add_mod]; congr 1; omega
  have hne : head ≠ (head + (i + 1)) % L := by
    have := mod_ne (L := L) (head := head) (i := 0) (j := i + 1) F.hh (by omega) (by omega)
    rw [Nat.add_zero, Nat.mod_eq_of_lt F.hh] at this
    exact this
  rw [e1, List.getElem?_set_ne hne]
  have := F.at_ (i + 1) (by simp; omega)
  simpa using this
theorem Fill.emptied {L e head : Nat} {cs : List Value} {x : Int} (F : Fill L e head cs [x]) : Fill L e 0 (cs.set head .nilIface) [] := by
  have hpos : 0 < L := by have := F.hh; omega
  exact ⟨F.pow, F.e3, F.e10, hpos, by simp, by simp [F.len], mem_set_one F.one rfl, fun i hi => by simp at hi⟩

/-- The queue at Bq holds the messages vs; its ring lies behind block Bm. -/
def St (w : World) (Bq Bm : Nat) (vs : List Int) : Prop :=
  (Q0 w Bq ∧ vs = []) ∨ ∃ R L e head cs, QR w Bq R L head vs.length cs ∧ Fill L e head cs vs ∧ Bm < R

theorem push_st (Bq Bm : Nat) (vs : List Int) (x : Int) (w : World) (h : St w Bq Bm vs) (hn : vs.length < 1024) (hBm : Bm < w.heap.size) :
    Calls Yba.prog 4 #[.pointer (some ⟨Bq, 0, none⟩), .iface 3 (.int .i64 x)] w fun r w' => r = .returned (.tuple #[]) ∧ Only (fun k => k = Bq ∨ Bm < k) w w' ∧ St w' Bq Bm (vs ++ [x]) := by
  rcases h with ⟨h0, rfl⟩ | ⟨R, L, e, head, cs, hq, F, hR⟩
  · refine (push_none Bq x w h0).mono fun r w' ⟨hr, ho, hq⟩ => ⟨hr, ho.mono ?_, .inr ⟨w.heap.size, 8, 3, 0, _, hq, fill_one x, hBm⟩⟩
    rintro k (h | h)
    · exact .inl h
    · exact .inr (by omega)
  · by_cases hroom : vs.length < L
    · refine (push_room Bq R L e head vs.length cs x w hq F.pow (by have := F.e10; omega) F.hh hroom).mono fun r w' ⟨hr, ho, hq'⟩ => ⟨hr, ho.mono ?_, .inr ⟨R, L, e, head, _, by rw [List.length_append]; exact hq', F.push hroom x, hR⟩⟩
      rintro k (h | h)
      · exact .inl h
      · exact .inr (by omega)
    · have hfull : vs.length = L := by have := F.le; omega
      have he : e ≤ 9 := by
        have h1 := F.e10
        by_cases h : e = 10
        · have := F.pow; rw [h] at this; omega
        · omega
      have h8 : 8 ≤ L := by rw [F.pow]; exact Nat.pow_le_pow_right (n := 2) (by omega) F.e3
      rw [hfull] at hq
      refine (push_full Bq R L e head cs x w hq F.pow (by omega) h8 F.hh F.one).mono fun r w' ⟨hr, ho, hq'⟩ => ⟨hr, ho.mono ?_, .inr ⟨w.heap.size, 2 * L, e + 1, 0, _, by rw [List.length_append, hfull]; exact hq', F.full hfull he x, hBm⟩⟩
      rintro k (h | h)
      · exact .inl h
      · exact .inr (by omega)
end Go.Proofs.Ybulkyzw

namespace Go.Proofs.Ybulkyzw
open Go.RowKit

theorem St.kept {S : Nat → Prop} {w w' : World} {Bq Bm : Nat} {vs : List Int} (h : St w Bq Bm vs) (ho : Only S w w') (h1 : ¬ S Bq) (h2 : ∀ k, Bm < k → k < w.heap.size → ¬ S k) : St w' Bq Bm vs := by
  rcases h with ⟨h0, rfl⟩ | ⟨R, L, e, head, cs, hq, F, hR⟩
  · exact .inl ⟨h0.kept ho h1, rfl⟩
  · have hpos : 0 < L := by have := F.hh; omega
    have hRl : R < w.heap.size := by
      have := hq.rc 0 hpos
      rw [List.getElem?_eq_getElem (by rw [hq.len]; exact hpos)] at this
      exact block_lt_of_cell this
    exact .inr ⟨R, L, e, head, cs, hq.kept ho h1 (h2 R hR hRl) hpos, F, hR⟩

/-- The law's own list lies from place off on in a row of len cells at Bm. -/
structure Mr (w : World) (Bm len off : Nat) (vs : List Int) : Prop where
  ex : ∀ i, i < len → ∃ u, w.cell? ⟨Bm, i, none⟩ = some u
  fz : ∀ i, i < len → w.frozen? ⟨Bm, i, none⟩ = false
  at_ : ∀ j (h : j < vs.length), w.cell? ⟨Bm, off + j, none⟩ = some (.int .i64 vs[j])

theorem Mr.kept {S : Nat → Prop} {w w' : World} {Bm len off : Nat} {vs : List Int} (h : Mr w Bm len off vs) (ho : Only S w w') (h1 : ¬ S Bm) : Mr w' Bm len off vs := by
  refine ⟨fun i hi => ?_, fun i hi => ?_, fun j hj => ho.cell (h.at_ j hj) h1⟩
  · obtain ⟨u, hu⟩ := h.ex i hi
    exact ⟨u, ho.cell hu h1⟩
  · obtain ⟨u, hu⟩ := h.ex i hi
    exact ho.frozen (p := ⟨Bm, i, none⟩) (block_lt_of_cell hu) (h.fz i hi) h1

/-- One appended. -/
theorem Mr.push {w : World} {Bm len off : Nat} {vs : List Int} (h : Mr w Bm len off vs) (hl : off + vs.length < len) (x : Int) : Mr (w.setCell ⟨Bm, off + vs.length, none⟩ (.int .i64 x)) Bm len off (vs ++ [x]) := by
  obtain ⟨u0, hu0⟩ := h.ex (off + vs.length) hl
  refine ⟨fun i hi => ?_, fun i hi => by simp [h.fz i hi], fun j hj => ?_⟩
  · by_cases e : i = off + vs.length
    · subst e; exact ⟨_, cell_same hu0⟩
    · obtain ⟨u, hu⟩ := h.ex i hi
      exact ⟨u, (cell_other (fun c => e (congrArg Addr.off c).symm)).trans hu⟩
  · by_cases e : j < vs.length
    · rw [List.getElem_append_left e]
      exact (cell_other (fun c => by have := congrArg Addr.off c; simp at this; omega)).trans (h.at_ j e)
    · have ej : j = vs.length := by simp at hj; omega
      subst ej
      rw [List.getElem_append_right (Nat.le_refl _)]
      simpa using cell_same hu0
/-- The first struck. -/
theorem Mr.pop {w : World} {Bm len off : Nat} {x : Int} {vs : List Int} (h : Mr w Bm len off (x :: vs)) : Mr w Bm len (off + 1) vs :=
  ⟨h.ex, h.fz, fun j hj => by
    have := h.at_ (j + 1) (by simp; omega)
    rw [show off + 1 + j = off + (j + 1) by omega]
    simpa using this⟩
end Go.Proofs.Ybulkyzw
