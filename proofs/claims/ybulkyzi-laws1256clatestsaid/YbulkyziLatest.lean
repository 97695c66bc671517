/- (*Map).latest and (*Map).Get over the map of one key. -/
import Derived.Test.YbulkyziWalksA
namespace Go.Proofs.Ybulkyzi
open Go.RowKit

/-- Add i, of put p, lies at its five cells. -/
structure AddAt (w : World) (g i : Nat) (p : Put) : Prop where
  c0 : w.cell? ⟨g, i * 5, none⟩ = some (.int .u64 ((i : Int) + 1))
  c1 : w.cell? ⟨g, i * 5 + 1, none⟩ = some (.string ⟨#[114]⟩)
  c2 : w.cell? ⟨g, i * 5 + 2, none⟩ = some (.int .i64 p.time)
  c3 : w.cell? ⟨g, i * 5 + 3, none⟩ = some (.string p.rep)
  c4 : w.cell? ⟨g, i * 5 + 4, none⟩ = some (.string p.text)

/-- The map that zzs1256cmap builds. -/
structure Held (w : World) (Bm b be g cap : Nat) (key : ByteArray) (ps : List Put) : Prop where
  m : w.cell? ⟨Bm, 0, none⟩ = some (.map (some b))
  o : OneMap w b key be
  s : w.cell? ⟨be, 0, none⟩ = some (.slice (some ⟨g, 0, none⟩) ps.length cap)
  le : ps.length ≤ cap
  a : ∀ i (h : i < ps.length), AddAt w g i ps[i]

theorem AddAt.later {w w' : World} {g i : Nat} {p : Put} (h : AddAt w g i p) (hb : Below w.heap.size w w') : AddAt w' g i p := by
  have c : ∀ {x : Addr} {v : Value}, w.cell? x = some v → w'.cell? x = some v := fun {x v} h => (hb.cell (block_lt_of_cell h)).trans h
  exact ⟨c h.c0, c h.c1, c h.c2, c h.c3, c h.c4⟩
theorem Held.later {w w' : World} {Bm b be g cap : Nat} {key : ByteArray} {ps : List Put} (h : Held w Bm b be g cap key ps) (hb : Below w.heap.size w w') : Held w' Bm b be g cap key ps := by
  have c : ∀ {x : Addr} {v : Value}, w.cell? x = some v → w'.cell? x = some v := fun {x v} h => (hb.cell (block_lt_of_cell h)).trans h
  exact ⟨c h.m, h.o.later hb, c h.s, h.le, fun i hi => (h.a i hi).later hb⟩

set_option maxRecDepth 100000 in
set_option maxHeartbeats 1000000 in
/-- latest: no such field, or no put. -/
theorem latest_no (Bm b be g cap : Nat) (key k : ByteArray) (ps : List Put) (w : World) (hk : k.size ≤ maxLen) (h : Held w Bm b be g cap key ps) (hno : ¬ k = key ∨ ps.length = 0) :
    Calls Yba.prog 20 #[.pointer (some ⟨Bm, 0, none⟩), .string k] w fun e w' => e = .returned (.tuple #[.agg #[.int .i64 0, .string ⟨#[]⟩, .string ⟨#[]⟩], .bool false]) ∧ Below w.heap.size w w' := by
  obtain ⟨W, hW⟩ : ∃ W, w.alloc (.cells #[.int .i64 0, .string ⟨#[]⟩, .string ⟨#[]⟩] 60) = W := ⟨_, rfl⟩
  have hb : Below w.heap.size w W := by rw [← hW]; exact (Below.refl _ _).alloc (Nat.le_refl _) _
  have hW2 := h.later hb
  have cS := standing_any Bm b be key k _ _ _ W hk hW2.m hW2.o hW2.s
  obtain ⟨a0, c0, hv⟩ : ∃ a0 c0, (if k = key then Value.slice (some ⟨g, 0, none⟩) ps.length cap else .slice none 0 0) = .slice a0 0 c0 := by
    by_cases e : k = key
    · rw [if_pos e]
      rcases hno with h | h
      · exact absurd e h
      · rw [h]; exact ⟨_, _, rfl⟩
    · rw [if_neg e]; exact ⟨_, _, rfl⟩
  rw [hv] at cS
  have d0 : W.cell? ⟨w.heap.size, 0, none⟩ = some (.int .i64 0) := by rw [← hW]; simp
  have d1 : W.cell? ⟨w.heap.size, 1, none⟩ = some (.string ⟨#[]⟩) := by rw [← hW]; simp
  have d2 : W.cell? ⟨w.heap.size, 2, none⟩ = some (.string ⟨#[]⟩) := by rw [← hW]; simp
  have z0 : W.frozen? ⟨w.heap.size, 0, none⟩ = false := by rw [← hW]; simp
  have z1 : W.frozen? ⟨w.heap.size, 1, none⟩ = false := by rw [← hW]; simp
  have z2 : W.frozen? ⟨w.heap.size, 2, none⟩ = false := by rw [← hW]; simp
  clear hv hno h hW2
  go_enter Yba.func20, Yba.ntmps20
  go_wp2_with (go_at_call 31; refine cS.mono ?_; rintro e w' ⟨rfl, hw⟩; obtain rfl := hw.symm)
  exact bodyPost_ret (v := .tuple #[.agg #[.int .i64 0, .string ⟨#[]⟩, .string ⟨#[]⟩], .bool false]) (by simp [results, Yba.results20, go_sem, d0, d1, d2]) rfl ⟨rfl, ((hb.setCell (by simp) _).setCell (by simp) _).setCell (by simp) _⟩

/-- What the loop of 'latest' carries: the value found so far in its variable's block, the result's block, all that lay before. -/
structure LInv (w wr : World) (Bv : Nat) (V : Put) : Prop where
  v0 : wr.cell? ⟨Bv, 0, none⟩ = some (.int .i64 V.time)
  v1 : wr.cell? ⟨Bv, 1, none⟩ = some (.string V.rep)
  v2 : wr.cell? ⟨Bv, 2, none⟩ = some (.string V.text)
  f0 : wr.frozen? ⟨Bv, 0, none⟩ = false
  f1 : wr.frozen? ⟨Bv, 1, none⟩ = false
  f2 : wr.frozen? ⟨Bv, 2, none⟩ = false
  r0 : wr.cell? ⟨w.heap.size, 0, none⟩ = some (.int .i64 0)
  r1 : wr.cell? ⟨w.heap.size, 1, none⟩ = some (.string ⟨#[]⟩)
  r2 : wr.cell? ⟨w.heap.size, 2, none⟩ = some (.string ⟨#[]⟩)
  g0 : wr.frozen? ⟨w.heap.size, 0, none⟩ = false
  g1 : wr.frozen? ⟨w.heap.size, 1, none⟩ = false
  g2 : wr.frozen? ⟨w.heap.size, 2, none⟩ = false
  old : Below w.heap.size w wr

theorem LInv.later {w wr w1 : World} {Bv : Nat} {V : Put} (I : LInv w wr Bv V) (hb : Below wr.heap.size wr w1) : LInv w w1 Bv V := by
  have c : ∀ {x : Addr} {v : Value}, wr.cell? x = some v → w1.cell? x = some v := fun {x v} h => (hb.cell (block_lt_of_cell h)).trans h
  have hv : Bv < wr.heap.size := block_lt_of_cell I.v0
  have hr : w.heap.size < wr.heap.size := block_lt_of_cell I.r0
  exact ⟨c I.v0, c I.v1, c I.v2, (hb.frozen (p := ⟨Bv, 0, none⟩) hv).trans I.f0, (hb.frozen (p := ⟨Bv, 1, none⟩) hv).trans I.f1, (hb.frozen (p := ⟨Bv, 2, none⟩) hv).trans I.f2, c I.r0, c I.r1, c I.r2,
    (hb.frozen (p := ⟨w.heap.size, 0, none⟩) hr).trans I.g0, (hb.frozen (p := ⟨w.heap.size, 1, none⟩) hr).trans I.g1, (hb.frozen (p := ⟨w.heap.size, 2, none⟩) hr).trans I.g2, I.old.trans (hb.mono I.old.size)⟩

theorem LInv.store {w wr : World} {Bv : Nat} {V : Put} (I : LInv w wr Bv V) (hB : w.heap.size < Bv) (V' : Put) :
    LInv w (((wr.setCell ⟨Bv, 0, none⟩ (.int .i64 V'.time)).setCell ⟨Bv, 1, none⟩ (.string V'.rep)).setCell ⟨Bv, 2, none⟩ (.string V'.text)) Bv V' := by
  obtain ⟨v0, v1, v2, f0, f1, f2, r0, r1, r2, g0, g1, g2, old⟩ := I
  have ne : ∀ i j, (⟨Bv, i, none⟩ : Addr) ≠ ⟨w.heap.size, j, none⟩ := fun i j h => by have : Bv = w.heap.size := congrArg Addr.block h; omega
  have o : ∀ {u : World} {i j : Nat} {x : Value}, i ≠ j → (u.setCell ⟨Bv, i, none⟩ x).cell? ⟨Bv, j, none⟩ = u.cell? ⟨Bv, j, none⟩ := fun h => World.cell?_setCell_other _ _ _ _ (fun e => h (congrArg Addr.off e))
  have r : ∀ {u : World} {i j : Nat} {x : Value}, (u.setCell ⟨Bv, i, none⟩ x).cell? ⟨w.heap.size, j, none⟩ = u.cell? ⟨w.heap.size, j, none⟩ := World.cell?_setCell_other _ _ _ _ (ne _ _)
  refine ⟨?_, ?_, ?_, by simp [f0], by simp [f1], by simp [f2], ?_, ?_, ?_, by simp [g0], by simp [g1], by simp [g2], ((old.setCell (by simp; omega) _).setCell (by simp; omega) _).setCell (by simp; omega) _⟩
  · rw [o (by omega), o (by omega)]; exact World.cell?_setCell_same _ _ _ v0
  · rw [o (by omega)]; exact World.cell?_setCell_same _ _ _ ((o (i := 0) (j := 1) (by omega)).trans v1)
  · exact World.cell?_setCell_same _ _ _ ((o (i := 1) (j := 2) (by omega)).trans ((o (i := 0) (j := 2) (by omega)).trans v2))
  · rw [r, r, r]; exact r0
  · rw [r, r, r]; exact r1
  · rw [r, r, r]; exact r2

set_option maxRecDepth 100000 in
set_option maxHeartbeats 2000000 in
/-- latest: the latest of the puts. -/
theorem latest_yes (Bm b be g cap : Nat) (key : ByteArray) (p : Put) (l : List Put) (w : World) (hk : key.size ≤ maxLen) (h : Held w Bm b be g cap key (p :: l)) (hcap : cap ≤ 1024) :
    Calls Yba.prog 20 #[.pointer (some ⟨Bm, 0, none⟩), .string key] w fun e w' => e = .returned (.tuple #[.agg #[.int .i64 (bestOf p l).time, .string (bestOf p l).rep, .string (bestOf p l).text], .bool true]) ∧ Below w.heap.size w w' := by
  obtain ⟨W, hW⟩ : ∃ W, w.alloc (.cells #[.int .i64 0, .string ⟨#[]⟩, .string ⟨#[]⟩] 60) = W := ⟨_, rfl⟩
  have hb : Below w.heap.size w W := by rw [← hW]; exact (Below.refl _ _).alloc (Nat.le_refl _) _
  have hW2 := h.later hb
  have cS := standing_any Bm b be key key _ _ _ W hk hW2.m hW2.o hW2.s
  rw [if_pos rfl] at cS
  have a0 := hW2.a 0 (by simp)
  simp only [List.getElem_cons_zero] at a0
  obtain ⟨x0, x1, x2, x3, x4⟩ := a0
  simp only [Nat.zero_mul, Nat.zero_add] at x0 x1 x2 x3 x4
  have d0 : W.cell? ⟨w.heap.size, 0, none⟩ = some (.int .i64 0) := by rw [← hW]; simp
  have d1 : W.cell? ⟨w.heap.size, 1, none⟩ = some (.string ⟨#[]⟩) := by rw [← hW]; simp
  have d2 : W.cell? ⟨w.heap.size, 2, none⟩ = some (.string ⟨#[]⟩) := by rw [← hW]; simp
  have z0 : W.frozen? ⟨w.heap.size, 0, none⟩ = false := by rw [← hW]; simp
  have z1 : W.frozen? ⟨w.heap.size, 1, none⟩ = false := by rw [← hW]; simp
  have z2 : W.frozen? ⟨w.heap.size, 2, none⟩ = false := by rw [← hW]; simp
  have hsz : W.heap.size = w.heap.size + 1 := by rw [← hW]; simp
  have hle := h.le
  simp at hle
  have HH : Hid (Held w Bm b be g cap key (p :: l)) := h
  clear h hW2
  have I0 : Hid (LInv w (W.alloc (.cells #[.int .i64 p.time, .string p.rep, .string p.text] 60)) (w.heap.size + 1) p) := by
    have hb2 : Below W.heap.size W (W.alloc (.cells #[.int .i64 p.time, .string p.rep, .string p.text] 60)) := (Below.refl _ _).alloc (Nat.le_refl _) _
    have hN : w.heap.size < W.heap.size := by omega
    refine ⟨by rw [← hsz]; simp, by rw [← hsz]; simp, by rw [← hsz]; simp, by rw [← hsz]; simp, by rw [← hsz]; simp, by rw [← hsz]; simp, ?_, ?_, ?_, ?_, ?_, ?_, hb.trans (hb2.mono hb.size)⟩
    · exact (hb2.cell (p := ⟨w.heap.size, 0, none⟩) hN).trans d0
    · exact (hb2.cell (p := ⟨w.heap.size, 1, none⟩) hN).trans d1
    · exact (hb2.cell (p := ⟨w.heap.size, 2, none⟩) hN).trans d2
    · exact (hb2.frozen (p := ⟨w.heap.size, 0, none⟩) hN).trans z0
    · exact (hb2.frozen (p := ⟨w.heap.size, 1, none⟩) hN).trans z1
    · exact (hb2.frozen (p := ⟨w.heap.size, 2, none⟩) hN).trans z2
  have hnz : ((l.length : Int) + 1 == 0) = false := by simp; omega
  by_cases hc1 : cap = 1
  · subst hc1
    have hl0 : l.length = 0 := by omega
    go_enter Yba.func20, Yba.ntmps20
    go_wp2_with (go_at_call 31; refine cS.mono ?_; rintro e w' ⟨rfl, hw⟩; obtain rfl := hw.symm)
    go_loopw [26] (fun i wr => ∃ j : Nat, j ≤ l.length ∧ i = .int .i64 j ∧ LInv w wr (w.heap.size + 1) (bestOf p (l.take j))) (fun i _ => l.length - (intOf i).toNat)
    case atStart => exact ⟨0, Nat.zero_le _, rfl, I0.out⟩
    case round =>
      obtain ⟨j, hj, rfl, I⟩ := hrel
      by_cases hlt : j < l.length
      · exfalso; omega
      · obtain rfl : j = l.length := by omega
        rw [List.take_length] at I
        obtain ⟨V, hV⟩ : ∃ V, bestOf p l = V := ⟨_, rfl⟩
        rw [hV] at I
        have HV : Hid (bestOf p l = V) := hV
        obtain ⟨v0, v1, v2, f0, f1, f2, r0, r1, r2, g0, g1, g2, old⟩ := I
        clear hV
        go_wp2
        exact bodyPost_ret (v := .tuple #[.agg #[.int .i64 V.time, .string V.rep, .string V.text], .bool true]) (by simp [results, Yba.results20, go_sem, r0, r1, r2]) rfl ⟨by rw [HV.out], ((old.setCell (by simp) _).setCell (by simp) _).setCell (by simp) _⟩
  · skip
    go_enter Yba.func20, Yba.ntmps20
    go_wp2_with (go_at_call 31; refine cS.mono ?_; rintro e w' ⟨rfl, hw⟩; obtain rfl := hw.symm)
    go_loopw [26] (fun i wr => ∃ j : Nat, j ≤ l.length ∧ i = .int .i64 j ∧ LInv w wr (w.heap.size + 1) (bestOf p (l.take j))) (fun i _ => l.length - (intOf i).toNat)
    case atStart => exact ⟨0, Nat.zero_le _, rfl, I0.out⟩
    case round =>
      obtain ⟨j, hj, rfl, I⟩ := hrel
      by_cases hlt : j < l.length
      · obtain ⟨q, hq⟩ : ∃ q, l[j]'hlt = q := ⟨_, rfl⟩
        obtain ⟨V, hV⟩ : ∃ V, bestOf p (l.take j) = V := ⟨_, rfl⟩
        rw [hV] at I
        have HS : Hid (bestOf p (l.take (j + 1)) = if later q V = true then q else V) := by
          show bestOf p (l.take (j + 1)) = _
          rw [List.take_succ_eq_append_getElem hlt, bestOf_snoc, hV, hq]
        have aj := ((HH.out.later I.old).a (j + 1) (by simp; omega))
        simp only [List.getElem_cons_succ, hq] at aj
        obtain ⟨y0, y1, y2, y3, y4⟩ := aj
        rw [show (j + 1) * 5 = 5 + j * 5 by omega] at y0 y1 y2 y3 y4
        obtain ⟨c, hc⟩ : ∃ c, ((j + 1 : Nat) : Int) + 1 = c := ⟨_, rfl⟩
        rw [hc] at y0
        clear hc
        obtain ⟨W3, hW3⟩ : ∃ W3, wr.alloc (.cells #[.int .u64 c, .string ⟨#[114]⟩, .int .i64 q.time, .string q.rep, .string q.text] 82) = W3 := ⟨_, rfl⟩
        have hb3 : Below wr.heap.size wr W3 := by rw [← hW3]; exact (Below.refl _ _).alloc (Nat.le_refl _) _
        have I3 := I.later hb3
        have e2 : W3.cell? ⟨wr.heap.size, 2, none⟩ = some (.int .i64 q.time) := by rw [← hW3]; simp
        have e3 : W3.cell? ⟨wr.heap.size, 3, none⟩ = some (.string q.rep) := by rw [← hW3]; simp
        have e4 : W3.cell? ⟨wr.heap.size, 4, none⟩ = some (.string q.text) := by rw [← hW3]; simp
        have k0 := I3.v0
        have k1 := I3.v1
        have k2 := I3.v2
        have II3 : Hid (LInv w W3 (w.heap.size + 1) V) := I3
        have cA := after_any q V W3
        clear I I3 hq hV
        cases hla : later q V with
        | true =>
          rw [hla] at cA
          have HS2 : Hid (bestOf p (l.take (j + 1)) = q) := HS.out.trans (by rw [hla]; rfl)
          clear hla HS
          go_wp2_with fail
          refine cA.mono ?_
          rintro r w4 ⟨rfl, hb4⟩
          have I4 := II3.out.later hb4
          have m2 := (hb4.cell (p := ⟨wr.heap.size, 2, none⟩) (block_lt_of_cell e2)).trans e2
          have m3 := (hb4.cell (p := ⟨wr.heap.size, 3, none⟩) (block_lt_of_cell e3)).trans e3
          have m4 := (hb4.cell (p := ⟨wr.heap.size, 4, none⟩) (block_lt_of_cell e4)).trans e4
          have n0 := I4.v0
          have n1 := I4.v1
          have n2 := I4.v2
          have o0 := I4.f0
          have o1 := I4.f1
          have o2 := I4.f2
          have I5 : Hid (LInv w _ (w.heap.size + 1) q) := I4.store (by omega) q
          clear I4 cA
          go_wp2
          go_roundw
          case rel => exact ⟨j + 1, by omega, by go_num, by rw [HS2.out]; exact I5.out⟩
          case measure => simp [intOf]; omega
        | false =>
          rw [hla] at cA
          have HS2 : Hid (bestOf p (l.take (j + 1)) = V) := HS.out.trans (by rw [hla]; rfl)
          clear hla HS
          go_wp2_with fail
          refine cA.mono ?_
          rintro r w4 ⟨rfl, hb4⟩
          have I4 : Hid (LInv w w4 (w.heap.size + 1) V) := II3.out.later hb4
          clear cA
          go_wp2
          go_roundw
          case rel => exact ⟨j + 1, by omega, by go_num, by rw [HS2.out]; exact I4.out⟩
          case measure => simp [intOf]; omega
      · obtain rfl : j = l.length := by omega
        rw [List.take_length] at I
        obtain ⟨V, hV⟩ : ∃ V, bestOf p l = V := ⟨_, rfl⟩
        rw [hV] at I
        have HV : Hid (bestOf p l = V) := hV
        obtain ⟨v0, v1, v2, f0, f1, f2, r0, r1, r2, g0, g1, g2, old⟩ := I
        clear hV
        go_wp2
        exact bodyPost_ret (v := .tuple #[.agg #[.int .i64 V.time, .string V.rep, .string V.text], .bool true]) (by simp [results, Yba.results20, go_sem, r0, r1, r2]) rfl ⟨by rw [HV.out], ((old.setCell (by simp) _).setCell (by simp) _).setCell (by simp) _⟩
end Go.Proofs.Ybulkyzi
