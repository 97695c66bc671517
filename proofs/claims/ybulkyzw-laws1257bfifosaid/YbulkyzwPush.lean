/- (*queue).push. -/
import Derived.Test.YbulkyzwGrow
import Derived.BigRegion
namespace Go.Proofs.Ybulkyzw
open Go.RowKit

theorem grow_none' (Bq L n0 : Nat) (w : World) (h : Q0 w Bq) (hL : 8 = L) (hn : 0 = n0) :
    Calls Yba.prog 8 #[.pointer (some ⟨Bq, 0, none⟩)] w fun r w' => r = .returned (.tuple #[]) ∧ Only (fun k => k = Bq) w w' ∧ QR w' Bq w.heap.size L 0 n0 (List.replicate 8 Value.nilIface) := by
  subst hL; subst hn
  exact grow_none Bq w h

set_option maxHeartbeats 2000000 in
/-- push where there is room. -/
theorem push_room (Bq R L e head n : Nat) (cs : List Value) (x : Int) (w : World) (h : QR w Bq R L head n cs) (hL : L = 2 ^ e) (he : e ≤ 12) (hh : head < L) (hn : n < L) :
    Calls Yba.prog 4 #[.pointer (some ⟨Bq, 0, none⟩), .iface 3 (.int .i64 x)] w fun r w' => r = .returned (.tuple #[]) ∧ Only (fun k => k = Bq ∨ k = R) w w' ∧ QR w' Bq R L head (n + 1) (cs.set ((head + n) % L) (.iface 3 (.int .i64 x))) := by
  have hpos : 0 < L := by omega
  have hle : L ≤ 4096 := by rw [hL]; exact Nat.pow_le_pow_right (by omega) he
  have hm := mask_wrap ((head : Int) + (n : Int)) ((L : Int) - 1) (head + n) L e (by omega) rfl hL he (by omega)
  have hm2 := mask_eq (head + n) L e hL he (by omega)
  obtain ⟨K, hK⟩ : ∃ K, (head + n) % L = K := ⟨_, rfl⟩
  have hKL : K < L := by rw [← hK]; exact Nat.mod_lt _ hpos
  rw [hK] at hm hm2 ⊢
  have hm3 : bits BinOp.and IntKind.i64 ((head : Int) + (n : Int)) ((L : Int) - 1) = (K : Int) := by rw [← hm2]; congr 1
  have i0 : (0 : Int) ≤ (K : Int) := by omega
  have i1 : (K : Int) < (L : Int) := by omega
  have c0 := h.c0
  have c1 := h.c1
  have c2 := h.c2
  have f2 := h.f2
  obtain ⟨u, hu⟩ : ∃ u, cs[K]? = some u := ⟨_, List.getElem?_eq_getElem (by rw [h.len]; exact hKL)⟩
  have ck := (h.rc K hKL).trans hu
  have fk := h.rf K hKL
  have ne1 : ¬ R = Bq := h.ne
  have ne2 : ¬ Bq = R := fun e => h.ne e.symm
  have hnl : ((n : Int) == (L : Int)) = false := by simp; omega
  have HL := hid hL
  have HH := hid h
  clear h hL hK hu hm2
  go_enter Yba.func4, Yba.ntmps4
  go_wp2
  go_quiet (fail)
  go_wp2
  go_region_held3 (fun w' => w'.cell? ⟨Bq, 0, none⟩ = some (.slice (some ⟨R, 0, none⟩) L L) ∧ w'.cell? ⟨Bq, 1, none⟩ = some (.int .i64 head) ∧ w'.cell? ⟨Bq, 2, none⟩ = some (.int .i64 n)) (go_keep) (fail)
  go_wp2
  go_end0
  have q := ((HH.out.drewN (nq + 1)).slot K hKL (.iface 3 (.int .i64 x))).setCount (n + 1)
  rw [show ((n : Int) + 1) = ((n + 1 : Nat) : Int) by omega]
  exact ⟨rfl, (((Only.refl _ w).drewN (nq + 1)).setCell (.inr rfl) _).setCell (.inl rfl) _, q⟩

set_option maxHeartbeats 2000000 in
/-- push where the ring is full. -/
theorem push_full (Bq R L e head : Nat) (cs : List Value) (x : Int) (w : World) (h : QR w Bq R L head L cs) (hL : L = 2 ^ e) (he : e ≤ 11) (h8 : 8 ≤ L) (hh : head < L) (h1 : ∀ v ∈ cs, v.oneCell' = true) :
    Calls Yba.prog 4 #[.pointer (some ⟨Bq, 0, none⟩), .iface 3 (.int .i64 x)] w fun r w' => r = .returned (.tuple #[]) ∧ Only (fun k => k = Bq ∨ k = w.heap.size) w w' ∧ QR w' Bq w.heap.size (2 * L) 0 (L + 1) ((cs.drop head ++ cs.take head ++ List.replicate L Value.nilIface).set L (.iface 3 (.int .i64 x))) := by
  have hpos : 0 < L := by omega
  have hle : L ≤ 2048 := by rw [hL]; exact Nat.pow_le_pow_right (by omega) he
  obtain ⟨e2, hE2, hE⟩ : ∃ e2, e2 ≤ 12 ∧ 2 * L = 2 ^ e2 := ⟨e + 1, by omega, by rw [hL, Nat.pow_succ]; omega⟩
  have c0 := h.c0
  have c1 := h.c1
  have c2 := h.c2
  have HL := hid hL
  clear hL
  have HC := hid (fun (W : World) (hW : QR W Bq R L head L cs) => grow_full Bq R L head cs W hW hpos h8 hle hh h1)
  obtain ⟨cs2, hcs2⟩ : ∃ cs2, cs.drop head ++ cs.take head ++ List.replicate L Value.nilIface = cs2 := ⟨_, rfl⟩
  obtain ⟨L2, hL2⟩ : ∃ L2, 2 * L = L2 := ⟨_, rfl⟩
  rw [hcs2, hL2] at HC ⊢
  have hm := mask_wrap (0 + (L : Int)) ((L2 : Int) - 1) L L2 e2 (by omega) rfl (hL2.symm.trans hE) hE2 (by omega)
  have hmb := mask_wrap (L : Int) ((L2 : Int) - 1) L L2 e2 (by omega) rfl (hL2.symm.trans hE) hE2 (by omega)
  have hm2 := mask_eq L L2 e2 (hL2.symm.trans hE) hE2 (by omega)
  rw [Nat.mod_eq_of_lt (by omega)] at hm hm2 hmb
  have hnL2 : L < L2 := by omega
  have i0 : (0 : Int) ≤ (L : Int) := by omega
  have i1 : (L : Int) < (L2 : Int) := by omega
  have hL2m : L2 ≤ 4096 := by rw [← hL2, hE]; exact Nat.pow_le_pow_right (by omega) hE2
  have HH := hid h
  clear h hcs2 hL2 hE
  go_enter Yba.func4, Yba.ntmps4
  go_wp2
  go_quiet (fail)
  go_wp2_with fail
  refine (HC.out (w.drewN nq) (HH.out.drewN nq)).mono ?_
  rintro r w1 ⟨rfl, ho, h⟩
  have hsz : (w.drewN nq).heap.size = w.heap.size := rfl
  rw [hsz] at h
  have c0 := h.c0
  have c1 : w1.cell? ⟨Bq, 1, none⟩ = some (.int .i64 0) := h.c1
  have c2 := h.c2
  have f2 := h.f2
  obtain ⟨u, hu⟩ : ∃ u, cs2[L]? = some u := ⟨_, List.getElem?_eq_getElem (by rw [h.len]; omega)⟩
  have ck := (h.rc L (by omega)).trans hu
  have fk := h.rf L (by omega)
  have ne1 : ¬ w.heap.size = Bq := h.ne
  have ne2 : ¬ Bq = w.heap.size := fun e => h.ne e.symm
  have H2 := hid h
  have HO := hid ho
  clear h ho hu HC hsz
  go_wp2
  go_region_held3 (fun w' => w'.cell? ⟨Bq, 0, none⟩ = some (.slice (some ⟨w.heap.size, 0, none⟩) L2 L2) ∧ w'.cell? ⟨Bq, 1, none⟩ = some (.int .i64 0) ∧ w'.cell? ⟨Bq, 2, none⟩ = some (.int .i64 L)) (go_keep) (fail)
  go_wp2
  go_end0
  have q := (H2.out.drew.slot L hnL2 (.iface 3 (.int .i64 x))).setCount (L + 1)
  have ob : Only (fun k => k = Bq ∨ k = w.heap.size) w w1 := (Only.drewN (Only.refl _ w) nq).trans (HO.out.mono (fun k h => .inl h))
  have ob2 : Only (fun k => k = Bq ∨ k = w.heap.size) w ((w1.drew.setCell ⟨w.heap.size, L, none⟩ (.iface 3 (.int .i64 x))).setCell ⟨Bq, 2, none⟩ (.int .i64 ((L + 1 : Nat) : Int))) := (ob.drew.setCell (p := ⟨w.heap.size, L, none⟩) (.inr rfl) _).setCell (p := ⟨Bq, 2, none⟩) (.inl rfl) _
  exact ⟨rfl, ob2, q⟩

set_option maxHeartbeats 2000000 in
/-- push where there is no ring: lengths by letters. -/
theorem push_none' (Bq L n0 : Nat) (x : Int) (w : World) (h : Q0 w Bq) (hL8 : 8 = L) (hn0 : 0 = n0) :
    Calls Yba.prog 4 #[.pointer (some ⟨Bq, 0, none⟩), .iface 3 (.int .i64 x)] w fun r w' => r = .returned (.tuple #[]) ∧ Only (fun k => k = Bq ∨ k = w.heap.size) w w' ∧ QR w' Bq w.heap.size L 0 (n0 + 1) ((List.replicate 8 Value.nilIface).set n0 (.iface 3 (.int .i64 x))) := by
  obtain ⟨e2, hE2, hE⟩ : ∃ e2, e2 ≤ 12 ∧ L = 2 ^ e2 := ⟨3, by omega, by omega⟩
  have c0 := h.c0
  have c1 := h.c1
  have c2 := h.c2
  have HC := hid (fun (W : World) (hW : Q0 W Bq) => grow_none' Bq L n0 W hW hL8 hn0)
  obtain ⟨cs2, hcs2⟩ : ∃ cs2, List.replicate 8 Value.nilIface = cs2 := ⟨_, rfl⟩
  rw [hcs2] at HC ⊢
  have hm := mask_wrap (0 + (n0 : Int)) ((L : Int) - 1) n0 L e2 (by omega) rfl hE hE2 (by omega)
  have hmb := mask_wrap (n0 : Int) ((L : Int) - 1) n0 L e2 (by omega) rfl hE hE2 (by omega)
  have hm2 := mask_eq n0 L e2 hE hE2 (by omega)
  rw [Nat.mod_eq_of_lt (by omega)] at hm hm2 hmb
  have hnL2 : n0 < L := by omega
  have i0 : (0 : Int) ≤ (n0 : Int) := by omega
  have i1 : (n0 : Int) < (L : Int) := by omega
  have hL2m : L ≤ 4096 := by rw [hE]; exact Nat.pow_le_pow_right (by omega) hE2
  have HH := hid h
  have HL8 := hid hL8
  have HN0 := hid hn0
  clear h hcs2 hE hL8 hn0
  have hL2m' : L ≤ 4096 := hL2m
  go_enter Yba.func4, Yba.ntmps4
  go_wp2
  go_quiet (fail)
  go_wp2_with fail
  refine (HC.out (w.drewN nq) ⟨HH.out.c0, HH.out.c1, HH.out.c2, HH.out.f0, HH.out.f1, HH.out.f2⟩).mono ?_
  rintro r w1 ⟨rfl, ho, h⟩
  have hsz : (w.drewN nq).heap.size = w.heap.size := rfl
  rw [hsz] at h
  have c0 := h.c0
  have c1 : w1.cell? ⟨Bq, 1, none⟩ = some (.int .i64 0) := h.c1
  have c2 := h.c2
  have f2 := h.f2
  obtain ⟨u, hu⟩ : ∃ u, cs2[n0]? = some u := ⟨_, List.getElem?_eq_getElem (by rw [h.len]; omega)⟩
  have ck := (h.rc n0 (by omega)).trans hu
  have fk := h.rf n0 (by omega)
  have ne1 : ¬ w.heap.size = Bq := h.ne
  have ne2 : ¬ Bq = w.heap.size := fun e => h.ne e.symm
  have H2 := hid h
  have HO := hid ho
  clear h ho hu HC hsz
  go_wp2
  go_region_held3 (fun w' => w'.cell? ⟨Bq, 0, none⟩ = some (.slice (some ⟨w.heap.size, 0, none⟩) L L) ∧ w'.cell? ⟨Bq, 1, none⟩ = some (.int .i64 0) ∧ w'.cell? ⟨Bq, 2, none⟩ = some (.int .i64 n0)) (go_keep) (fail)
  go_wp2
  go_end0
  have q := (H2.out.drew.slot n0 hnL2 (.iface 3 (.int .i64 x))).setCount (n0 + 1)
  have ob : Only (fun k => k = Bq ∨ k = w.heap.size) w w1 := (Only.drewN (Only.refl _ w) nq).trans (HO.out.mono (fun k h => .inl h))
  have ob2 : Only (fun k => k = Bq ∨ k = w.heap.size) w ((w1.drew.setCell ⟨w.heap.size, n0, none⟩ (.iface 3 (.int .i64 x))).setCell ⟨Bq, 2, none⟩ (.int .i64 ((n0 + 1 : Nat) : Int))) := (ob.drew.setCell (p := ⟨w.heap.size, n0, none⟩) (.inr rfl) _).setCell (p := ⟨Bq, 2, none⟩) (.inl rfl) _
  exact ⟨rfl, ob2, q⟩

/-- push where there is no ring. -/
theorem push_none (Bq : Nat) (x : Int) (w : World) (h : Q0 w Bq) :
    Calls Yba.prog 4 #[.pointer (some ⟨Bq, 0, none⟩), .iface 3 (.int .i64 x)] w fun r w' => r = .returned (.tuple #[]) ∧ Only (fun k => k = Bq ∨ k = w.heap.size) w w' ∧ QR w' Bq w.heap.size 8 0 1 ((List.replicate 8 Value.nilIface).set 0 (.iface 3 (.int .i64 x))) :=
  push_none' Bq 8 0 x w h rfl rfl
end Go.Proofs.Ybulkyzw
