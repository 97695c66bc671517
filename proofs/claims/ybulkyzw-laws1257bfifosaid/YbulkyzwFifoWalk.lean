/- even-mailbox.LawS1257BFifo: the walk. -/
import Derived.Test.YbulkyzwState
import Derived.Deep.DeepCutAuto
import Derived.Deep.LoopGhost
namespace Go.Proofs.Ybulkyzw.lawS1257BFifo
open Go.RowKit

/-- WHAT THE WALK IS TOLD OF A SLICE OF INTEGERS THAT CAME IN: it is nil; or it leads to a row of 'cap' cells, the numbers 'zs' (the first 'len' are its elements, the rest its spare room), each fitting its kind. -/
def IsRow (k : IntKind) (w : World) (a : Option Addr) (len cap : Nat) (zs : List Int) : Prop :=
  (a = none ∧ len = 0 ∧ cap = 0 ∧ zs = []) ∨
  ∃ x, a = some x ∧ len ≤ cap ∧ cap ≤ maxLen ∧ zs.length = cap ∧ (∀ i, i < zs.length → w.cell? (x.add i) = some (.int k (zs.getD i 0))) ∧ ∀ n ∈ zs, (Lit.int k n).wf = true

theorem info3 : (Yba.prog.info? 3).map (fun i => (i.zero, i.size, i.bytes)) = some (some (.int .i64 0), 1, 8) := by kernel_rfl

theorem eql_nil (W : World) : (binOp .eql 24 (.slice none 0 0) (.slice none 0 0)).run Yba.prog W = .ok (.bool true) W := by kernel_rfl
theorem eql_some (a : Addr) (l c : Nat) (W : World) : (binOp .eql 24 (.slice (some a) l c) (.slice none 0 0)).run Yba.prog W = .ok (.bool false) W := by kernel_rfl
theorem neq_nil (W : World) : (binOp .neq 24 (.slice none 0 0) (.slice none 0 0)).run Yba.prog W = .ok (.bool false) W := by kernel_rfl
theorem neq_some (a : Addr) (l c : Nat) (W : World) : (binOp .neq 24 (.slice (some a) l c) (.slice none 0 0)).run Yba.prog W = .ok (.bool true) W := by kernel_rfl
theorem neq_iface (W : World) : (binOp .neq 20 .nilIface .nilIface).run Yba.prog W = .ok (.bool false) W := by kernel_rfl

/-- What the loop over the script carries. -/
structure Inv (w wr : World) (len k off : Nat) (vs : List Int) : Prop where
  st : St wr w.heap.size (w.heap.size + 1) vs
  mr : Mr wr (w.heap.size + 1) len off vs
  old : Below w.heap.size w wr
  big : w.heap.size + 1 < wr.heap.size
  sum : off + vs.length ≤ k

/-- Behind a push and the law's own append. -/
theorem Inv.pushed {w wr w3 : World} {len k off : Nat} {vs : List Int} (I : Inv w wr len k off vs) (hk : k < len) (ho : Only (fun b => b = w.heap.size ∨ w.heap.size + 1 < b) wr w3) (hst : St w3 w.heap.size (w.heap.size + 1) (vs ++ [(k : Int)])) (o : Obj) :
    Inv w ((w3.setCell ⟨w.heap.size + 1, off + vs.length, none⟩ (.int .i64 k)).alloc o) len (k + 1) off (vs ++ [(k : Int)]) := by
  have m3 := I.mr.kept ho (by simp)
  have hs := I.sum
  obtain ⟨W, hW⟩ : ∃ W, w3.setCell ⟨w.heap.size + 1, off + vs.length, none⟩ (.int .i64 k) = W := ⟨_, rfl⟩
  have os : Only (fun b => b = w.heap.size + 1) w3 W := by rw [← hW]; exact (Only.refl (fun b => b = w.heap.size + 1) w3).setCell (p := ⟨w.heap.size + 1, off + vs.length, none⟩) (show w.heap.size + 1 = w.heap.size + 1 from rfl) _
  have mW : Mr W (w.heap.size + 1) len off (vs ++ [(k : Int)]) := by rw [← hW]; exact m3.push (by omega) _
  rw [hW]
  have oa : ∀ S, Only S W (W.alloc o) := fun S => Only.of_below ((Below.refl _ _).alloc (Nat.le_refl _) _)
  have ob : Only (fun b => b = w.heap.size + 1) w3 (W.alloc o) := os.trans (oa _)
  have b3 : Below w.heap.size w w3 := ho.below I.old I.old.size (fun k h => by rcases h with h | h <;> omega)
  refine ⟨hst.kept ob (by simp) (fun k h _ => by omega), mW.kept (oa (fun _ => False)) (fun h => h), ob.below b3 b3.size (fun k h => by omega), ?_, by simp; omega⟩
  have h1 := I.big
  have h2 := ho.size
  have h3 := ob.size
  omega

/-- Where the loop begins. -/
theorem start {w w2 : World} {len : Nat} (hown : w2.ownsRow (w.heap.size + 1) 3 1 (.slice (some ⟨w.heap.size + 1, 0, none⟩) 0 len) 0 []) (hgrow : (w.alloc (.cells #[.slice none 0 0, .int .i64 0, .int .i64 0] 26)).grownBy w2 none) : Inv w w2 len 0 0 [] := by
  obtain ⟨W, hW⟩ : ∃ W, w.alloc (.cells #[.slice none 0 0, .int .i64 0, .int .i64 0] 26) = W := ⟨_, rfl⟩
  have sW : W.heap.size = w.heap.size + 1 := by rw [← hW]; simp
  have bW : Below w.heap.size w W := by rw [← hW]; exact (Below.refl _ _).alloc (Nat.le_refl _) _
  have q : Q0 W w.heap.size := by
    rw [← hW]
    exact ⟨by simp, by simp, by simp, by simp, by simp, by simp⟩
  rw [hW] at hgrow
  have b2 : Below W.heap.size W w2 := (Below.refl _ _).grown hgrow (Nat.le_refl _) (fun k h => by cases h)
  obtain ⟨hl, hc⟩ := hown
  rcases hc with ⟨hv, _⟩ | ⟨g, cap, cur, hv, _, hh, hn, _, hs, ht⟩
  · cases hv
  simp only [Value.slice.injEq, Option.some.injEq, Addr.mk.injEq, true_and, and_true] at hv
  obtain ⟨rfl, rfl⟩ := hv
  have ob : Only (fun _ => False) W w2 := Only.of_below b2
  have hlt : w.heap.size + 1 < w2.heap.size := (Array.getElem?_eq_some_iff.1 hh).1
  have row : ∀ i, i < len → (∃ u, w2.cell? ⟨w.heap.size + 1, i, none⟩ = some u) ∧ w2.frozen? ⟨w.heap.size + 1, i, none⟩ = false := by
    intro i hi
    have ho : w2.ownsRow 0 3 1 (.slice (some ⟨w.heap.size + 1, 0, none⟩) len len) len cur.toList :=
      ⟨by simp; omega, .inr ⟨w.heap.size + 1, len, cur, rfl, Nat.zero_le _, hh, Nat.le_refl _, by assumption, hs, by rw [Nat.mul_one]; exact List.take_of_length_le (by simp; omega)⟩⟩
    refine ⟨?_, ho.frozenAt i⟩
    have := ho.cellAt i (by omega)
    rw [List.getElem?_eq_getElem (by simp; omega)] at this
    exact ⟨_, this⟩
  exact ⟨.inl ⟨q.kept ob (fun h => h), rfl⟩, ⟨fun i hi => (row i hi).1, fun i hi => (row i hi).2, fun j hj => by simp at hj⟩, bW.trans (b2.mono bW.size), hlt, by simp⟩

/-- Behind a pop. -/
theorem Inv.popped {w wr w3 : World} {len k off R : Nat} {y : Int} {vs : List Int} (I : Inv w wr len k off (y :: vs)) (ho : Only (fun b => b = w.heap.size ∨ b = R) wr w3) (hR : w.heap.size + 1 < R) (hst : St w3 w.heap.size (w.heap.size + 1) vs) (hm : Mr w3 (w.heap.size + 1) len (off + 1) vs) :
    Inv w w3 len (k + 1) (off + 1) vs := by
  have hs := I.sum
  simp at hs
  refine ⟨hst, hm, ho.below I.old I.old.size (fun k h => by rcases h with h | h <;> omega), ?_, by omega⟩
  have h1 := I.big
  have h2 := ho.size
  omega
theorem Inv.quiet {w wr w3 : World} {len k off : Nat} {vs : List Int} (I : Inv w wr len k off vs) (ho : Only (fun _ => False) wr w3) : Inv w w3 len k off vs := by
  refine ⟨I.st.kept ho (fun h => h) (fun _ _ _ h => h), I.mr.kept ho (fun h => h), ho.below I.old I.old.size (fun k h => h.elim), ?_, I.sum⟩
  have h1 := I.big
  have h2 := ho.size
  omega
theorem cap_eq (a b : Nat) (x : Option Addr) (n : Nat) : Value.slice x n (a - b - 1) = .slice x n (a - (b + 1)) := by rw [Nat.sub_sub]

set_option maxRecDepth 100000 in
set_option maxHeartbeats 4000000 in
theorem walk (a0 : Option Addr) (len0 cap0 : Nat) (z0 : List Int) (a1 : Int) (w : World) (w0 : IsRow .u8 w a0 len0 cap0 z0) (w1 : (Lit.int .i64 a1).wf = true) :
    Calls Yba.prog 3 #[.slice a0 len0 cap0, .int .i64 a1] w fun e w' => e = .returned (.bool true) ∧ Below w.heap.size w w' := by
  obtain ⟨i0, hi, hz0, hz1, hz2⟩ := info_parts info3
  have hmax : len0 ≤ maxLen := by
    rcases w0 with ⟨_, h, _, _⟩ | ⟨x, _, h1, h2, _⟩
    · rw [h]; exact Nat.zero_le _
    · exact Nat.le_trans h1 h2
  unfold maxLen at hmax
  have W0 : Hid (IsRow .u8 w a0 len0 cap0 z0) := w0
  have W1 := hid w1
  clear w0 w1
  by_cases hbig : 1024 < len0
  · go_enter Yba.func3, Yba.ntmps3
    go_wp2
    go_ret
    exact ⟨rfl, Below.refl _ _⟩
  · go_enter Yba.func3, Yba.ntmps3
    go_wp2_with (at_make; refine wpList_make_own _ rfl _ _ 27 rfl (w.heap.size + 1) 3 i0 (.int .i64 0) 1 Yba.underlying27 hi hz0 hz1 _ _ _ len0 rfl rfl rfl (by rw [hz2]; omega) (by unfold maxLen; omega) (by simp) ?_)
    intro w2 hown hgrow
    go_wp2
    go_loopg [6, 28] len0 (fun gf s6 s28 wr => ∃ (k off : Nat) (vs : List Int), gf + k = len0 ∧ s28 = .int .i64 k ∧ s6 = .slice (some ⟨w.heap.size + 1, off, none⟩) vs.length (len0 - off) ∧ Inv w wr len0 k off vs)
    case atStart => exact ⟨0, 0, [], by omega, rfl, rfl, start hown hgrow⟩
    case round =>
      obtain ⟨k, off, vs, hgk, rfl, rfl, I⟩ := hrel
      by_cases hlt : k < len0
      · obtain ⟨g', rfl⟩ : ∃ g', gk = g' + 1 := ⟨gk - 1, by omega⟩
        have HGK := hid hgk
        clear hgk
        rcases W0.out with ⟨_, h, _, _⟩ | ⟨x, rfl, hl, hm, hzl, hcell, hwf⟩
        · exfalso; omega
        obtain ⟨z, hz⟩ : ∃ z, z0.getD k 0 = z := ⟨_, rfl⟩
        have hzw : (Lit.int .u8 z).wf = true := by
          rw [← hz]; refine hwf _ ?_; rw [List.getD_eq_getElem?_getD, List.getElem?_eq_getElem (by omega)]; exact List.getElem_mem _
        have hc0 : w.cell? (x.add k) = some (.int .u8 z) := by rw [← hz]; exact hcell k (by omega)
        have hcx : wr.cell? (x.add k) = some (.int .u8 z) := (I.old.cell (block_lt_of_cell hc0)).trans hc0
        have hzb : 0 ≤ z ∧ z ≤ 255 := by
          have e1 : IntKind.u8.min = 0 := rfl
          have e2 : IntKind.u8.max = 255 := rfl
          simp [Lit.wf, e1, e2] at hzw; omega
        obtain ⟨hza, hzb⟩ := hzb
        have II := hid I
        clear hcell hwf hz hc0 hzw hzl hl hm I
        by_cases hpush : ¬ z % 3 = 0
        · have cP := push_st w.heap.size (w.heap.size + 1) vs (k : Int) wr II.out.st (by have := II.out.sum; omega) II.out.big
          have hfit : vs.length + 1 ≤ len0 - off := by have := II.out.sum; omega
          go_wp2_with fail
          refine cP.mono ?_
          rintro e w3 ⟨rfl, ho, hst⟩
          have J := II.out.pushed hlt ho hst (.cells #[.int .i64 k] 3)
          have JJ := hid J
          have m3 := II.out.mr.kept ho (by simp)
          obtain ⟨u, hu⟩ := m3.ex (off + vs.length) (by omega)
          have hf := m3.fz (off + vs.length) (by omega)
          have hN1 : w.heap.size + 1 < w3.heap.size := block_lt_of_cell hu
          clear J m3 ho hst cP
          go_wp2
          go_roundg g'
          case measure => omega
          case rel => exact ⟨k + 1, off, vs ++ [(k : Int)], by have := HGK.out; omega, by go_num, by simp, JJ.out⟩
        · have hz3 : z % 3 = 0 := by omega
          cases vs with
          | nil =>
            have cP := push_st w.heap.size (w.heap.size + 1) [] (k : Int) wr II.out.st (by simp) II.out.big
            have hfit : 1 ≤ len0 - off := by have := II.out.sum; simp at this; omega
            go_wp2_with fail
            refine cP.mono ?_
            rintro e w3 ⟨rfl, ho, hst⟩
            have J := II.out.pushed hlt ho hst (.cells #[.int .i64 k] 3)
            have m3 := II.out.mr.kept ho (by simp)
            simp only [List.length_nil, Nat.add_zero, List.nil_append] at J
            have JJ := hid J
            obtain ⟨u, hu⟩ := m3.ex off (by omega)
            have hf := m3.fz off (by omega)
            have hN1 : w.heap.size + 1 < w3.heap.size := block_lt_of_cell hu
            clear J m3 ho hst cP
            go_wp2
            go_roundg g'
            case measure => omega
            case rel => exact ⟨k + 1, off, [(k : Int)], by have := HGK.out; omega, by go_num, rfl, JJ.out⟩
          | cons y vs =>
            clear hpush
            go_upto_if 52 with fail
            go_cut [9] (fun s9 wc => ∃ kk : Int, s9 = .int .i64 kk ∧ wc = wr)
            case first =>
              go_wp2
              all_goals go_meet
              all_goals exact ⟨_, rfl, rfl⟩
            case rest =>
            obtain ⟨kk, rfl, hwc⟩ := hcut
            obtain rfl := hwc.symm
            rcases II.out.st with ⟨_, h⟩ | ⟨R, L, e, head, cs, hq, F, hR⟩
            · cases h
            have F0 := F.at_ 0 (by simp)
            rw [Nat.add_zero, Nat.mod_eq_of_lt F.hh] at F0
            simp only [List.getElem_cons_zero, msgV] at F0
            have cP := pop_any w.heap.size R L e head (vs.length + 1) cs (.iface 3 (.int .i64 y)) kk wr hq F.pow (by have := F.e10; omega) F.hh (by omega) (by simpa using F.le) F0
            have q0 := hq.c0
            have q1 := hq.c1
            have hL8 : 8 ≤ L := by rw [F.pow]; exact Nat.pow_le_pow_right (n := 2) (by omega) F.e3
            have hL1 : L ≤ 1024 := by rw [F.pow]; exact Nat.pow_le_pow_right (n := 2) (by omega) F.e10
            have HF := hid F
            have HQ := hid hq
            have hhL := F.hh
            clear F hq F0
            go_wp2_with fail
            refine cP.mono ?_
            rintro r w3 ⟨rfl, ho, hpop⟩
            have hta : ∀ (v : Value) (W : World), (Instr.typeAssert (.iface 3 v) 20 3 true).run Yba.prog W = .ok (.tuple #[v, .bool true]) W := fun v W => by kernel_rfl
            have m3 := II.out.mr.kept ho (by simp; omega)
            have d0 := m3.at_ 0 (by simp)
            simp only [List.getElem_cons_zero, Nat.add_zero] at d0
            have hN1 : w.heap.size + 1 < w3.heap.size := block_lt_of_cell d0
            have hc1 : ¬ len0 - off = 1 := by have := II.out.sum; simp at this; omega
            have hc2 : 1 ≤ len0 - off := by have := II.out.sum; simp at this; omega
            have n1 := eql_nil
            have n2 := eql_some
            have n3 := neq_nil
            have n4 := neq_some
            have n5 := neq_iface
            have HP := hid hpop
            have HO := hid ho
            have HM := hid m3.pop
            clear cP hpop ho m3
            cases vs with
            | nil =>
              by_cases hkL : kk < (L : Int)
              · have Q := HP.out.1 rfl hkL
                have r0 := Q.c0
                have r1 := Q.c1
                have r2 := Q.c2
                have cLen := len_any w.heap.size 0 w3 Q.c2
                have HQ0 := hid Q
                clear Q
                go_wp2_with (go_at_call 6; refine cLen.mono ?_; rintro e w' ⟨rfl, hw⟩; obtain rfl := hw.symm)
                have J := hid (II.out.popped HO.out hR (.inl ⟨HQ0.out, rfl⟩) HM.out)
                go_roundg g'
                case measure => omega
                case rel => exact ⟨k + 1, off + 1, [], by have := HGK.out; omega, by go_num, cap_eq _ _ _ _, J.out⟩
              · have Q := HP.out.2.1 rfl hkL
                have r0 := Q.c0
                have r1 := Q.c1
                have r2 := Q.c2
                have cLen := len_any w.heap.size 0 w3 Q.c2
                have rh := Q.rc head hhL
                rw [List.getElem?_set_self (by have := Q.len; simp at this; omega)] at rh
                have i0 : (0 : Int) ≤ (head : Int) := by omega
                have i1 : (head : Int) < (L : Int) := by omega
                have HQ0 := hid Q
                clear Q
                go_wp2_with (go_at_call 6; refine cLen.mono ?_; rintro e w' ⟨rfl, hw⟩; obtain rfl := hw.symm)
                have J := hid (II.out.popped HO.out hR (.inr ⟨R, L, e, 0, _, HQ0.out, HF.out.emptied, hR⟩) HM.out)
                go_roundg g'
                case measure => omega
                case rel => exact ⟨k + 1, off + 1, [], by have := HGK.out; omega, by go_num, cap_eq _ _ _ _, J.out⟩
            | cons y2 vs =>
              have Q := HP.out.2.2 (by simp)
              have r0 := Q.c0
              have r1 := Q.c1
              have r2 : w3.cell? ⟨w.heap.size, 2, none⟩ = some (.int .i64 ((vs.length + 1 : Nat) : Int)) := Q.c2
              have cLen := len_any w.heap.size (vs.length + 1) w3 r2
              have rh := Q.rc head hhL
              rw [List.getElem?_set_self (by have := Q.len; simp at this; omega)] at rh
              have i0 : (0 : Int) ≤ (head : Int) := by omega
              have i1 : (head : Int) < (L : Int) := by omega
              have hm2 := mask_eq (head + 1) L e HF.out.pow (by have := HF.out.e10; omega) (by omega)
              obtain ⟨K, hK⟩ : ∃ K, (head + 1) % L = K := ⟨_, rfl⟩
              rw [hK] at hm2 r1
              have hm3 : bits BinOp.and IntKind.i64 ((head : Int) + 1) ((L : Int) - 1) = (K : Int) := by rw [← hm2]; congr 1
              have hv1 : ((vs.length : Int) + 1 == 0) = false := by simp; omega
              have HK := hid hK
              have HQ1 := hid Q
              clear Q hm2 hK
              go_wp2_with (go_at_call 6; refine cLen.mono ?_; rintro e w' ⟨rfl, hw⟩; obtain rfl := hw.symm)
              have J := hid (II.out.popped HO.out hR (.inr ⟨R, L, e, (head + 1) % L, _, HQ1.out, HF.out.pop, hR⟩) HM.out)
              go_loopw [15] (fun s15 wq => ∃ j : Nat, j ≤ vs.length + 1 ∧ s15 = .int .i64 j ∧ Only (fun _ => False) w3 wq) (fun s15 _ => vs.length + 1 - (intOf s15).toNat)
              case atStart => exact ⟨0, Nat.zero_le _, rfl, Only.refl _ _⟩
              case round =>
                obtain ⟨j, hj, rfl, hoq⟩ := hrel
                by_cases hjl : j < vs.length + 1
                · have hjl' : j < (y2 :: vs).length := by simpa using hjl
                  obtain ⟨E, hE⟩ : ∃ E, (y2 :: vs)[j]'hjl' = E := ⟨_, rfl⟩
                  have Qq := HQ1.out.kept hoq (fun h => h) (fun h => h) (by omega)
                  have Fp := HF.out.pop
                  have fa := Fp.at_ j hjl'
                  rw [hE] at fa
                  have cA := at_any w.heap.size R L e ((head + 1) % L) _ j _ (.iface 3 (.int .i64 E)) _ Qq Fp.pow (by have := Fp.e10; omega) Fp.hh (by have := Fp.le; simp at this; omega) fa
                  have dj := (HM.out.kept hoq (fun h => h)).at_ j hjl'
                  rw [hE] at dj
                  have hjc : (j : Int) < (vs.length : Int) + 1 := by omega
                  have hj0 : (0 : Int) ≤ (j : Int) := by omega
                  have hjb : (j : Int) ≤ 2000 := by have := II.out.sum; simp at this; omega
                  have HOq := hid hoq
                  have HE := hid hE
                  clear Qq Fp fa hoq hE
                  go_wp2_with fail
                  refine cA.mono ?_
                  rintro r wz ⟨rfl, dd, rfl⟩
                  go_wp2
                  go_roundw
                  case rel => exact ⟨j + 1, by omega, by go_num, HOq.out.drewN dd⟩
                  case measure => simp [intOf]; omega
                · have JQ := hid (J.out.quiet hoq)
                  go_wp2
                  go_roundg g'
                  case measure => omega
                  case rel => exact ⟨k + 1, off + 1, y2 :: vs, by have := HGK.out; omega, by go_num, cap_eq _ _ _ _, JQ.out⟩
      · go_wp2
        go_ret
        exact ⟨rfl, I.old⟩
end Go.Proofs.Ybulkyzw.lawS1257BFifo
