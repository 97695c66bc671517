/- interlace.LawS1253BExact: the walk. -/
import Derived.Test.YbulkyxsDoorInv
import Derived.Deep.RegionHeld3
import Derived.Deep.DeepCutAuto
namespace Go.Proofs.YbulkyxsDoor
open Go.RowKit

set_option maxRecDepth 100000 in
set_option maxHeartbeats 4000000 in
theorem exact_walk (a : Option Addr) (len cap : Nat) (es : List Ent) (q : Ent) (pick : Int) (use : Bool) (w : World) (hlen : es.length = len) (hfit : ∀ e ∈ es, e.fits) (hq : q.fits) (hp : 0 ≤ pick ∧ pick ≤ 255)
    (hes : Script w a es) (hbig : len ≤ 1024) (hJ : Joins w) :
    Calls Ybad.prog 4 #[.slice a len cap, .agg #[.string q.key, .string q.fin, .int .u8 q.kind, .int .u8 q.mode], .int .u8 pick, .bool use] w fun r w' => r = .returned (.bool true) ∧ Below w.heap.size w w' := by
  have hmm := @run_makeMap Ybad.prog
  have HES : Hid (Script w a es) := hes
  have HJ : Hid (Joins w) := hJ
  have HF : Hid (∀ e ∈ es, e.fits) := hfit
  have HQ : Hid q.fits := hq
  have HL : Hid (es.length = len) := hlen
  clear hes hJ hfit hq hlen
  go_enter Ybad.func4, Ybad.ntmps4
  go_wp2
  go_loopw [37] (fun i wr => ∃ k : Nat, k ≤ len ∧ i = .int .i64 k ∧ Inv1 w wr es q k) (fun i _ => len - (intOf i).toNat)
  case atStart =>
    exact ⟨0, Nat.zero_le _, rfl, inv1_start w es q [.pointer none, .bool false, .slice none 0 0, .int .u64 0, .pointer none, .pointer none, .int .u64 0, .bool false]⟩
  case round =>
    obtain ⟨k, hk, rfl, I⟩ := hrel
    by_cases hlt : k < len
    · obtain ⟨b, off, rfl, hl0⟩ := HES.out (by rw [HL.out]; omega)
      have hkl : k < es.length := by rw [HL.out]; exact hlt
      obtain ⟨e, he⟩ : ∃ e, es[k]'hkl = e := ⟨_, rfl⟩
      have hl := (hl0 k hkl).later I.old
      rw [he] at hl
      obtain ⟨d0, d1, d2, d3⟩ := hl
      obtain ⟨f1, f2, f3, f4, f5, f6⟩ := HF.out e (by rw [← he]; exact List.getElem_mem _)
      have HE : Hid (es[k]'hkl = e) := he
      have HK : Hid (k < es.length) := hkl
      have II : Hid (Inv1 w wr es q k) := I
      have l0 := I.l0
      have l1 := I.l1
      have t0 := I.t0
      have t1 := I.t1
      have HL0 : Hid (∀ i (h : i < es.length), Lies w b off i es[i]) := hl0
      clear he hl0 I
      have cK := fun W => kind_any e.kind W f3 f4
      have cM := fun W => mode_any e.mode W f5 f6
      obtain ⟨W, hW⟩ : ∃ W, wr.alloc (.cells #[.string e.key, .string e.fin, .int .u8 e.kind, .int .u8 e.mode] 86) = W := ⟨_, rfl⟩
      have hbw : Below wr.heap.size wr W := by rw [← hW]; exact (Below.refl _ _).alloc (Nat.le_refl _) _
      have g0 : W.cell? ⟨wr.heap.size, 0, none⟩ = some (.string e.key) := by rw [← hW]; simp
      have g1 : W.cell? ⟨wr.heap.size, 1, none⟩ = some (.string e.fin) := by rw [← hW]; simp
      have g2 : W.cell? ⟨wr.heap.size, 2, none⟩ = some (.int .u8 e.kind) := by rw [← hW]; simp
      have g3 : W.cell? ⟨wr.heap.size, 3, none⟩ = some (.int .u8 e.mode) := by rw [← hW]; simp
      have L0 := (hbw.cell (p := ⟨w.heap.size + 1 + 1 + 1, 0, none⟩) (block_lt_of_cell l0)).trans l0
      have L1 := (hbw.cell (p := ⟨w.heap.size + 1 + 1 + 1, 1, none⟩) (block_lt_of_cell l1)).trans l1
      have hlt0 := t0.lt
      have hlt1 := t1.lt
      by_cases hk0 : e.kind % 3 = 0
      · obtain ⟨w1, hup, t0', hg⟩ := (Tab0.kept (w' := W.drew) t0 (hbw.block _ t0.lt)).store e hk0 ⟨f1, f2, f3, f4, f5, f6⟩ (by simp [maxLen]; omega)
        have m0 := grown_cell hg (p := ⟨w.heap.size + 1 + 1 + 1, 0, none⟩) L0 (by first | (simp; done) | (simp; omega))
        have m1 := grown_cell hg (p := ⟨wr.heap.size, 0, none⟩) g0 (by first | (simp; done) | (simp; omega))
        have m2 := grown_cell hg (p := ⟨wr.heap.size, 3, none⟩) g3 (by first | (simp; done) | (simp; omega))
        have NX : Hid (Inv1 w w1 es q (k + 1)) := II.out.next HK.out hbw hg (.inl ⟨rfl, by rw [HE.out]; exact hk0, by rw [HE.out]; exact t0'⟩)
        clear t0' hg t0 t1
        go_wp2_with (go_at_call 10; refine (cK _).mono ?_; rintro e w' ⟨rfl, hw⟩; obtain rfl := hw.symm)
        go_region_held3 (fun w' => w'.cell? ⟨w.heap.size + 1 + 1 + 1, 0, none⟩ = some (.map (some (w.heap.size + 1))) ∧ w'.cell? ⟨wr.heap.size, 0, none⟩ = some (.string e.key) ∧ w'.cell? ⟨wr.heap.size, 3, none⟩ = some (.int .u8 e.mode)) (go_keep)
          (first | (go_at_call 11; refine (cM _).mono ?_; rintro e w' ⟨rfl, hw⟩; obtain rfl := hw.symm))
        go_wp2
        go_roundw
        case rel => exact ⟨k + 1, by omega, by go_num, NX.out⟩
        case measure => simp [intOf]; omega
      · obtain ⟨w1, hup, t1', hg⟩ := (Tab1.kept (w' := W.drew) t1 (hbw.block _ t1.lt)).store e ⟨f1, f2, f3, f4, f5, f6⟩ (by simp [maxLen]; omega)
        have m0 := grown_cell hg (p := ⟨w.heap.size + 1 + 1 + 1, 1, none⟩) L1 (by first | (simp; done) | (simp; omega))
        have m1 := grown_cell hg (p := ⟨wr.heap.size, 0, none⟩) g0 (by first | (simp; done) | (simp; omega))
        have m2 := grown_cell hg (p := ⟨wr.heap.size, 1, none⟩) g1 (by first | (simp; done) | (simp; omega))
        have m3 := grown_cell hg (p := ⟨wr.heap.size, 3, none⟩) g3 (by first | (simp; done) | (simp; omega))
        have NX : Hid (Inv1 w w1 es q (k + 1)) := II.out.next HK.out hbw hg (.inr ⟨rfl, by rw [HE.out]; exact hk0, by rw [HE.out]; exact t1'⟩)
        clear t1' hg t0 t1
        go_wp2_with (go_at_call 10; refine (cK _).mono ?_; rintro e w' ⟨rfl, hw⟩; obtain rfl := hw.symm)
        go_region_held3 (fun w' => w'.cell? ⟨w.heap.size + 1 + 1 + 1, 1, none⟩ = some (.map (some (w.heap.size + 1 + 1))) ∧ w'.cell? ⟨wr.heap.size, 0, none⟩ = some (.string e.key) ∧ w'.cell? ⟨wr.heap.size, 1, none⟩ = some (.string e.fin) ∧ w'.cell? ⟨wr.heap.size, 3, none⟩ = some (.int .u8 e.mode)) (go_keep)
          (first | (go_at_call 11; refine (cM _).mono ?_; rintro e w' ⟨rfl, hw⟩; obtain rfl := hw.symm))
        go_wp2
        go_roundw
        case rel => exact ⟨k + 1, by omega, by go_num, NX.out⟩
        case measure => simp [intOf]; omega
    · obtain rfl : k = len := by omega
      obtain ⟨qf1, qf2, qf3, qf4, qf5, qf6⟩ := HQ.out
      have q0 := I.q0
      have q1 := I.q1
      have q2 := I.q2
      have q3 := I.q3
      have cK := fun W => kind_any q.kind W qf3 qf4
      have II : Hid (Inv1 w wr es q k) := I
      clear I
      go_upto_region 16 with (go_at_call 10; refine (cK _).mono ?_; rintro e w' ⟨rfl, hw⟩; obtain rfl := hw.symm)
      go_cut [84] (fun s84 wc => s84 = .bool (use && decide (0 < k)) ∧ wc = wr)
      case first =>
        cases use
        · go_wp2
          go_meet
          exact ⟨rfl, rfl⟩
        · go_wp2
          go_meet
          exact ⟨by simp, rfl⟩
      case rest =>
      obtain ⟨rfl, hwc⟩ := hcut
      obtain rfl := hwc.symm
      go_upto_if 84 with fail
      go_cut [13, 14, 15] (fun s13 s14 s15 wc => ∃ (pk pf : ByteArray) (kd : Int), (pk.size ≤ maxLen ∧ pf.size ≤ maxLen ∧ 0 ≤ kd ∧ kd ≤ 2) ∧ s13 = .string pk ∧ s14 = .string pf ∧ s15 = .int .i8 kd ∧ Inv1 w wc es q k)
      case first =>
        by_cases hu : use = true ∧ 0 < k
        · rw [show (use && decide (0 < k)) = true from by simp [hu.1, hu.2]]
          obtain ⟨rfl, hk0⟩ := hu
          obtain ⟨b, off, rfl, hl0⟩ := HES.out (by rw [HL.out]; omega)
          have hik : (pick % (k : Int)).toNat < es.length := by
            rw [HL.out]
            have h1 := Int.emod_nonneg pick (show (k : Int) ≠ 0 by omega)
            have h2 := Int.emod_lt_of_pos pick (show (0 : Int) < k by omega)
            omega
          obtain ⟨p, hpe⟩ : ∃ p, es[(pick % (k : Int)).toNat]'hik = p := ⟨_, rfl⟩
          have hl := (hl0 _ hik).later II.out.old
          rw [hpe] at hl
          obtain ⟨d0, d1, d2, d3⟩ := hl
          have hpf := HF.out p (by rw [← hpe]; exact List.getElem_mem _)
          have HPF : Hid p.fits := hpf
          obtain ⟨f1, f2, f3, f4, f5, f6⟩ := hpf
          have cP := fun W => kind_any p.kind W f3 f4
          have hr1 : 0 ≤ pick % (k : Int) := Int.emod_nonneg pick (by omega)
          have hr2 : pick % (k : Int) < k := Int.emod_lt_of_pos pick (by omega)
          have HL0 : Hid (∀ i (h : i < es.length), Lies w b off i es[i]) := hl0
          have HIK : Hid ((pick % (k : Int)).toNat < es.length) := hik
          clear hl0 hpe hik cK
          go_wp2_with (go_at_call 10; refine (cP _).mono ?_; rintro e w' ⟨rfl, hw⟩; obtain rfl := hw.symm)
          go_meet
          exact ⟨p.key, p.fin, p.kind % 3, ⟨f1, f2, by omega, by omega⟩, rfl, rfl, rfl, II.out.later ((Below.refl _ _).alloc (Nat.le_refl _) _)⟩
        · have hu' : (use && decide (0 < k)) = false := by
            cases use <;> simp at hu ⊢; omega
          rw [hu']
          go_wp2
          go_meet
          exact ⟨q.key, q.fin, q.kind % 3, ⟨qf1, qf2, by omega, by omega⟩, rfl, rfl, rfl, II.out⟩
      case rest =>
        obtain ⟨pk, pf, kd, ⟨f1, f2, f3, f4⟩, rfl, rfl, rfl, I⟩ := hcut
        have q3' := I.q3
        have cM := fun W => mode_any q.mode W qf5 qf6
        have IC : Hid (Inv1 w wc es q k) := I
        clear I II cK q0 q1 q2 q3
        have hlt : w.heap.size < wc.heap.size := block_lt_of_cell q3'
        obtain ⟨W2, hW2⟩ : ∃ W2, wc.alloc (.cells #[.string pk, .string pf, .int .i8 kd] 101) = W2 := ⟨_, rfl⟩
        have hb2 : Below wc.heap.size wc W2 := by rw [← hW2]; exact (Below.refl _ _).alloc (Nat.le_refl _) _
        have q3'' := (hb2.cell (p := ⟨w.heap.size, 3, none⟩) hlt).trans q3'
        have s0 : W2.cell? ⟨wc.heap.size, 0, none⟩ = some (.string pk) := by rw [← hW2]; simp
        have s1 : W2.cell? ⟨wc.heap.size, 1, none⟩ = some (.string pf) := by rw [← hW2]; simp
        have s2 : W2.cell? ⟨wc.heap.size, 2, none⟩ = some (.int .i8 kd) := by rw [← hW2]; simp
        have hs2 : wc.heap.size < W2.heap.size := by rw [← hW2]; simp
        have I2 : Hid (Inv1 w W2 es q k) := IC.out.later hb2
        clear IC q3'
        go_wp2_with (go_at_call 11; refine (cM _).mono ?_; rintro e w' ⟨rfl, hw⟩; obtain rfl := hw.symm)
        have hkl := HL.out
        subst hkl
        refine (needs_look (w := w) (es := es) (q := q) (I2.out.later ((Below.refl _ _).alloc (Nat.le_refl _) _)) (by simp) HJ.out pk pf kd (q.mode % 4 + 1) f1 f2 (by omega) (by omega)).mono ?_
        rintro r w3 ⟨rfl, hb3⟩
        have old3 : Below w.heap.size w w3 := I2.out.old.trans ((((Below.refl _ _).alloc (Nat.le_refl _) _).trans (hb3.mono (by simp))).mono I2.out.old.size)
        have O3 : Hid (Below w.heap.size w w3) := old3
        obtain ⟨o, ho⟩ : ∃ o, look es pk pf kd = o := ⟨_, rfl⟩
        rw [ho]
        have HO : Hid (look es pk pf kd = o) := ho
        clear ho old3 hb3 I2 hb2 q3'' s0 s1 s2 hs2 hW2 cM
        by_cases hz : kd = 0
        · subst hz
          go_wp2
          go_loopw [22, 23, 120] (fun f h i wr => ∃ (j : Nat) (l : Option Int), j ≤ es.length ∧ i = .int .i64 j ∧ Hid (look (es.take j) pk pf 0 = l) ∧ f = .bool l.isSome ∧ h = .int .i8 (l.getD 0) ∧ Below w.heap.size w wr) (fun _ _ i _ => es.length - (intOf i).toNat)
          case atStart => exact ⟨0, none, Nat.zero_le _, rfl, rfl, rfl, rfl, O3.out⟩
          case round =>
            obtain ⟨j, l, hj, rfl, HLk, rfl, rfl, old⟩ := hrel
            by_cases hlt : j < es.length
            · obtain ⟨b, off, rfl, hl0⟩ := HES.out (by omega)
              obtain ⟨e, he⟩ : ∃ e, es[j]'hlt = e := ⟨_, rfl⟩
              have hl := (hl0 j hlt).later old
              rw [he] at hl
              obtain ⟨d0, d1, d2, d3⟩ := hl
              obtain ⟨g1, g2, g3, g4, g5, g6⟩ := HF.out e (by rw [← he]; exact List.getElem_mem _)
              have HS : Hid (look (es.take (j + 1)) pk pf 0 = if e.hit pk pf 0 = true then some (e.mode % 4 + 1) else l) := by
                show look (es.take (j + 1)) pk pf 0 = _
                rw [List.take_succ_eq_append_getElem hlt, look_snoc, he, HLk.out]
              have HL0 : Hid (∀ i (h : i < es.length), Lies w b off i es[i]) := hl0
              have old' : ∀ o, Below w.heap.size w (wr.alloc o) := fun o => old.alloc old.size o
              clear he hl0
              have cK := fun W => kind_any e.kind W g3 g4
              have cM := fun W => mode_any e.mode W g5 g6
              go_wp2_with (first | (go_at_call 10; refine (cK _).mono ?_; rintro e w' ⟨rfl, hw⟩; obtain rfl := hw.symm) | (go_at_call 11; refine (cM _).mono ?_; rintro e w' ⟨rfl, hw⟩; obtain rfl := hw.symm))
              · go_roundw
                case rel => exact ⟨j + 1, _, by omega, by go_num, HS.out.trans (if_neg (hit_key (by assumption))), rfl, rfl, old' _⟩
                case measure => simp [intOf]; omega
              · go_roundw
                case rel => exact ⟨j + 1, _, by omega, by go_num, HS.out.trans (if_pos (hit_zero (by assumption) (by assumption))), rfl, rfl, old' _⟩
                case measure => simp [intOf]; omega
              · go_roundw
                case rel => exact ⟨j + 1, _, by omega, by go_num, HS.out.trans (if_neg (hit_kind (by assumption))), rfl, rfl, old' _⟩
                case measure => simp [intOf]; omega
            · obtain rfl : j = es.length := by omega
              have hlo : l = o := by rw [← HO.out, ← HLk.out, List.take_length]
              subst hlo
              have cJ := fun h W (h1 : 1 ≤ h ∧ h ≤ 4) => join_any h (q.mode % 4 + 1) W h1 (by omega)
              cases l with
              | none =>
                go_wp2
                go_ret
                exact ⟨ret_bool (by simp [needB]), old⟩
              | some h =>
                have hm := look_mode es _ _ _ h HO.out
                go_wp2_with (go_at_call 13; refine (cJ _ _ hm).mono ?_; rintro e w' ⟨rfl, hw⟩; obtain rfl := hw.symm)
                go_ret
                exact ⟨ret_bool (by simp [needB]), by assumption⟩
        · skip
          go_wp2
          go_loopw [22, 23, 120] (fun f h i wr => ∃ (j : Nat) (l : Option Int), j ≤ es.length ∧ i = .int .i64 j ∧ Hid (look (es.take j) pk pf kd = l) ∧ f = .bool l.isSome ∧ h = .int .i8 (l.getD 0) ∧ Below w.heap.size w wr) (fun _ _ i _ => es.length - (intOf i).toNat)
          case atStart => exact ⟨0, none, Nat.zero_le _, rfl, rfl, rfl, rfl, O3.out⟩
          case round =>
            obtain ⟨j, l, hj, rfl, HLk, rfl, rfl, old⟩ := hrel
            by_cases hlt : j < es.length
            · obtain ⟨b, off, rfl, hl0⟩ := HES.out (by omega)
              obtain ⟨e, he⟩ : ∃ e, es[j]'hlt = e := ⟨_, rfl⟩
              have hl := (hl0 j hlt).later old
              rw [he] at hl
              obtain ⟨d0, d1, d2, d3⟩ := hl
              obtain ⟨g1, g2, g3, g4, g5, g6⟩ := HF.out e (by rw [← he]; exact List.getElem_mem _)
              have HS : Hid (look (es.take (j + 1)) pk pf kd = if e.hit pk pf kd = true then some (e.mode % 4 + 1) else l) := by
                show look (es.take (j + 1)) pk pf kd = _
                rw [List.take_succ_eq_append_getElem hlt, look_snoc, he, HLk.out]
              have HL0 : Hid (∀ i (h : i < es.length), Lies w b off i es[i]) := hl0
              have old' : ∀ o, Below w.heap.size w (wr.alloc o) := fun o => old.alloc old.size o
              clear he hl0
              have cK := fun W => kind_any e.kind W g3 g4
              have cM := fun W => mode_any e.mode W g5 g6
              go_wp2_with (first | (go_at_call 10; refine (cK _).mono ?_; rintro e w' ⟨rfl, hw⟩; obtain rfl := hw.symm) | (go_at_call 11; refine (cM _).mono ?_; rintro e w' ⟨rfl, hw⟩; obtain rfl := hw.symm))
              · go_roundw
                case rel => exact ⟨j + 1, _, by omega, by go_num, HS.out.trans (if_neg (hit_key (by assumption))), rfl, rfl, old' _⟩
                case measure => simp [intOf]; omega
              · go_roundw
                case rel => exact ⟨j + 1, _, by omega, by go_num, HS.out.trans (if_neg (hit_fin hz (And.right (by assumption)))), rfl, rfl, old' _⟩
                case measure => simp [intOf]; omega
              · go_roundw
                case rel => exact ⟨j + 1, _, by omega, by go_num, HS.out.trans (if_pos (hit_all (by assumption) (by assumption) (fin_of hz (by assumption)))), rfl, rfl, old' _⟩
                case measure => simp [intOf]; omega
              · go_roundw
                case rel => exact ⟨j + 1, _, by omega, by go_num, HS.out.trans (if_neg (hit_kind (by assumption))), rfl, rfl, old' _⟩
                case measure => simp [intOf]; omega
            · obtain rfl : j = es.length := by omega
              have hlo : l = o := by rw [← HO.out, ← HLk.out, List.take_length]
              subst hlo
              have cJ := fun h W (h1 : 1 ≤ h ∧ h ≤ 4) => join_any h (q.mode % 4 + 1) W h1 (by omega)
              cases l with
              | none =>
                go_wp2
                go_ret
                exact ⟨ret_bool (by simp [needB]), old⟩
              | some h =>
                have hm := look_mode es _ _ _ h HO.out
                go_wp2_with (go_at_call 13; refine (cJ _ _ hm).mono ?_; rintro e w' ⟨rfl, hw⟩; obtain rfl := hw.symm)
                go_ret
                exact ⟨ret_bool (by simp [needB]), by assumption⟩
end Go.Proofs.YbulkyxsDoor

namespace Go.Proofs.YbulkyxsDoor
open Go.RowKit
set_option maxRecDepth 100000 in
/-- More than 1024 entries: true at once. -/
theorem exact_big (a : Option Addr) (len cap : Nat) (c0 c1 c2 c3 : Value) (pick : Int) (use : Bool) (w : World) (hbig : 1024 < len) (hm : len ≤ maxLen) :
    Calls Ybad.prog 4 #[.slice a len cap, .agg #[c0, c1, c2, c3], .int .u8 pick, .bool use] w fun r w' => r = .returned (.bool true) ∧ Below w.heap.size w w' := by
  unfold maxLen at hm
  go_enter Ybad.func4, Ybad.ntmps4
  go_wp2
  go_ret
  exact ⟨rfl, (Below.refl _ _).alloc (Nat.le_refl _) _⟩
end Go.Proofs.YbulkyxsDoor
