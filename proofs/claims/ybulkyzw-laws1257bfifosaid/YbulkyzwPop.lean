/- (*queue).popKeeping. -/
import Derived.Test.YbulkyzwRing
import Derived.BigRegion
namespace Go.Proofs.Ybulkyzw
open Go.RowKit

/-- What stands behind popKeeping. -/
def Popped (w' : World) (Bq R L head n : Nat) (cs : List Value) (keep : Int) : Prop :=
  (n = 1 → keep < L → Q0 w' Bq) ∧ (n = 1 → ¬ keep < L → QR w' Bq R L 0 0 (cs.set head .nilIface)) ∧ (1 < n → QR w' Bq R L ((head + 1) % L) (n - 1) (cs.set head .nilIface))

set_option maxHeartbeats 2000000 in
theorem pop_any (Bq R L e head n : Nat) (cs : List Value) (v : Value) (keep : Int) (w : World) (h : QR w Bq R L head n cs) (hL : L = 2 ^ e) (he : e ≤ 12) (hh : head < L) (hn : 0 < n) (hnL : n ≤ L) (hv : cs[head]? = some v) :
    Calls Yba.prog 5 #[.pointer (some ⟨Bq, 0, none⟩), .int .i64 keep] w fun r w' => r = .returned v ∧ Only (fun k => k = Bq ∨ k = R) w w' ∧ Popped w' Bq R L head n cs keep := by
  have hpos : 0 < L := by omega
  have hle : L ≤ 4096 := by rw [hL]; exact Nat.pow_le_pow_right (by omega) he
  have hm := mask_wrap ((head : Int) + 1) ((L : Int) - 1) (head + 1) L e (by omega) rfl hL he (by omega)
  obtain ⟨K, hK⟩ : ∃ K, (head + 1) % L = K := ⟨_, rfl⟩
  have hKL : K < L := by rw [← hK]; exact Nat.mod_lt _ hpos
  rw [hK] at hm
  have hm2 := mask_eq (head + 1) L e hL he (by omega)
  rw [hK] at hm2
  have hm3 : bits BinOp.and IntKind.i64 ((head : Int) + 1) ((L : Int) - 1) = (K : Int) := by rw [← hm2]; congr 1
  clear hm2
  have hn1 : (n : Int) - 1 = ((n - 1 : Nat) : Int) := by omega
  have HN := hid hn1
  clear hn1
  have ck := (h.rc head hh).trans hv
  have fk := h.rf head hh
  have i0 : (0 : Int) ≤ (head : Int) := by omega
  have i1 : (head : Int) < (L : Int) := by omega
  have c0 := h.c0
  have c1 := h.c1
  have c2 := h.c2
  have f0 := h.f0
  have f1 := h.f1
  have f2 := h.f2
  have ne1 : ¬ R = Bq := h.ne
  have ne2 : ¬ Bq = R := fun e => h.ne e.symm
  have HL := hid hL
  have HH := hid h
  have HKK := hid hK
  clear h hL hK hv
  go_enter Yba.func5, Yba.ntmps5
  go_wp2
  go_quiet (fail)
  go_wp2
  go_region_held3 (fun w' => w'.cell? ⟨Bq, 0, none⟩ = some (.slice (some ⟨R, 0, none⟩) L L) ∧ w'.cell? ⟨Bq, 1, none⟩ = some (.int .i64 head)) (go_keep) (fail)
  go_wp2
  go_region
  all_goals go_wp2
  · go_ret
    have e1 : n = 1 := by have := (by assumption : ((n : Int) - 1 == 0) = true); simp at this; omega
    rw [HN.out]
    have q1 := (((((HH.out.drewN (nq + 1)).slot head hh .nilIface).setHead K).setCount (n - 1)).setHead 0)
    rw [show n - 1 = 0 by omega] at q1 ⊢
    have hk : keep < (L : Int) := by assumption
    refine ⟨rfl, ?_, fun _ _ => q1.letGo.drew, fun _ h => absurd hk h, fun h => by omega⟩
    exact ((((((Only.refl _ w).drewN (nq + 1)).setCell (.inr rfl) _).setCell (.inl rfl) _).setCell (.inl rfl) _).setCell (.inl rfl) _).setCell (.inl rfl) _ |>.drew
  · go_ret
    have e1 : n = 1 := by have := (by assumption : ((n : Int) - 1 == 0) = true); simp at this; omega
    have hk : (L : Int) ≤ keep := by assumption
    rw [HN.out]
    have q1 := (((((HH.out.drewN (nq + 1)).slot head hh .nilIface).setHead K).setCount (n - 1)).setHead 0)
    rw [show n - 1 = 0 by omega] at q1 ⊢
    refine ⟨rfl, ?_, fun _ h => by omega, fun _ _ => q1.drew, fun h => by omega⟩
    exact (((((Only.refl _ w).drewN (nq + 1)).setCell (.inr rfl) _).setCell (.inl rfl) _).setCell (.inl rfl) _).setCell (.inl rfl) _ |>.drew
  · go_ret
    have e1 : ¬ n = 1 := by have := (by assumption : ((n : Int) - 1 == 0) = false); simp at this; omega
    rw [HN.out]
    have q1 := ((((HH.out.drewN (nq + 1)).slot head hh .nilIface).setHead K).setCount (n - 1))
    refine ⟨rfl, ?_, fun h => absurd h e1, fun h => absurd h e1, fun _ => by rw [HKK.out]; exact q1.drew⟩
    exact ((((Only.refl _ w).drewN (nq + 1)).setCell (.inr rfl) _).setCell (.inl rfl) _).setCell (.inl rfl) _ |>.drew
end Go.Proofs.Ybulkyzw
