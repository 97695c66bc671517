/- addwins.LawS1256CLatest: the walk. -/
import Derived.Test.YbulkyziGetWalk
import Derived.Deep.RegionHeld3
import Derived.Deep.DeepCutAuto
namespace Go.Proofs.Ybulkyzi
open Go.RowKit

set_option maxRecDepth 100000 in
set_option maxHeartbeats 1000000 in
/-- Missed, or no put: nothing is found. -/
theorem latest_none_walk (a : Option Addr) (len cap : Nat) (key : ByteArray) (miss : Bool) (ps : List Put) (w : World) (hlen : ps.length = len) (hbig : len ≤ 1024) (hk : key.size + 1 ≤ maxLen) (hP : Puts w a ps) (hno : miss = true ∨ (miss = false ∧ len = 0)) :
    Calls Yba.prog 5 #[.slice a len cap, .string key, .bool miss] w fun e w' => e = .returned (.bool true) ∧ Below w.heap.size w w' := by
  obtain ⟨F, hF⟩ : ∃ F, key ++ (⟨#[35]⟩ : ByteArray) = F := ⟨_, rfl⟩
  have hFs : F.size = key.size + 1 := by rw [← hF, ByteArray.size_append]; rfl
  have hFne : ¬ F = key := fun e => by rw [e] at hFs; omega
  have hadd : ∀ W, (Op.stringOp .add key ⟨#[35]⟩).run Yba.prog W = .ok (.string F) W := fun W => by rw [← hF]; exact run_string_add_sum (w := W) key ⟨#[35]⟩ (by unfold maxLen at hk; show key.size + 1 ≤ _; omega)
  have cM := cmap_any a len cap key ps w hlen (by omega) (by omega) hP
  have c1 : ∀ (W : World) Bm b be g, Held W Bm b be g len key ps → Calls Yba.prog 20 #[.pointer (some ⟨Bm, 0, none⟩), .string F] W fun e w' => e = .returned (.tuple #[.agg #[.int .i64 0, .string ⟨#[]⟩, .string ⟨#[]⟩], .bool false]) ∧ Below W.heap.size W w' :=
    fun W Bm b be g h => latest_no Bm b be g len key F ps W (by omega) h (.inl hFne)
  have c2 : len = 0 → ∀ (W : World) Bm b be g, Held W Bm b be g len key ps → Calls Yba.prog 20 #[.pointer (some ⟨Bm, 0, none⟩), .string key] W fun e w' => e = .returned (.tuple #[.agg #[.int .i64 0, .string ⟨#[]⟩, .string ⟨#[]⟩], .bool false]) ∧ Below W.heap.size W w' :=
    fun h0 W Bm b be g h => latest_no Bm b be g len key key ps W (by omega) h (.inr (by omega))
  have C1 := hid c1
  have C2 := hid c2
  clear c1 c2 hF hFs hFne hP hk hlen
  rcases hno with rfl | ⟨rfl, rfl⟩
  · go_enter Yba.func5, Yba.ntmps5
    go_wp2_with (go_at_call 19; refine cM.mono ?_; rintro e w1 ⟨Bm, b, be, g, rfl, hH, hb1⟩)
    have c := C1.out w1 Bm b be g hH
    clear hH
    refine c.mono ?_
    rintro r w2 ⟨rfl, hb2⟩
    clear c
    go_wp2
    go_ret
    exact ⟨rfl, (hb1.trans (hb2.mono hb1.size)).alloc (hb1.trans (hb2.mono hb1.size)).size _⟩
  · have C3 := hid (C2.out rfl)
    clear C1 C2
    go_enter Yba.func5, Yba.ntmps5
    go_wp2_with (go_at_call 19; refine cM.mono ?_; rintro e w1 ⟨Bm, b, be, g, rfl, hH, hb1⟩)
    have c := C3.out w1 Bm b be g hH
    clear hH
    refine c.mono ?_
    rintro r w2 ⟨rfl, hb2⟩
    clear c
    go_wp2
    go_ret
    exact ⟨rfl, (hb1.trans (hb2.mono hb1.size)).alloc (hb1.trans (hb2.mono hb1.size)).size _⟩

set_option maxRecDepth 100000 in
set_option maxHeartbeats 2000000 in
/-- At the key, where there is a put: the first put which none exceeds. -/
theorem latest_some_walk (a : Option Addr) (len cap : Nat) (key : ByteArray) (ps : List Put) (w : World) (hlen : ps.length = len) (hbig : len ≤ 1024) (hk : key.size + 1 ≤ maxLen) (hP : Puts w a ps) (h0 : 0 < len) :
    Calls Yba.prog 5 #[.slice a len cap, .string key, .bool false] w fun e w' => e = .returned (.bool true) ∧ Below w.heap.size w w' := by
  have cM := cmap_any a len cap key ps w hlen (by omega) (by omega) hP
  obtain ⟨V, hV⟩ : ∃ V, best ps = V := ⟨_, rfl⟩
  have c1 : ∀ (W : World) Bm b be g, Held W Bm b be g len key ps → Calls Yba.prog 20 #[.pointer (some ⟨Bm, 0, none⟩), .string key] W fun e w' => e = .returned (.tuple #[.agg #[.int .i64 V.time, .string V.rep, .string V.text], .bool true]) ∧ Below W.heap.size W w' :=
    fun W Bm b be g h => by rw [← hV]; exact latest_any Bm b be g len key key ps W (by omega) h (by omega) true (by simp; omega)
  have C1 := hid c1
  obtain ⟨m, ⟨hm, hmax, hfst⟩, hmv⟩ := best_spec ps (by omega)
  have hmV : ps[m] = V := by rw [List.getElem?_eq_getElem hm, hV] at hmv; exact Option.some.inj hmv
  have HMV := hid hmV
  have HMX := hid hmax
  have HFS := hid hfst
  have HL := hid hlen
  obtain ⟨b0, off, rfl, hl0⟩ := hP (by omega)
  have HL0 := hid hl0
  have hmL : m < len := by omega
  clear c1 hmV hmax hfst hmv hV hP hl0 hlen hk
  have hne0 : ((len : Int) == 0) = false := by simp; omega
  go_enter Yba.func5, Yba.ntmps5
  go_wp2_with (go_at_call 19; refine cM.mono ?_; rintro e w1 ⟨Bm, b, be, g, rfl, hH, hb1⟩)
  have c := C1.out w1 Bm b be g hH
  clear hH
  refine c.mono ?_
  rintro r w2 ⟨rfl, hb2⟩
  clear c C1 cM
  have hB2 : Below w.heap.size w w2 := hb1.trans (hb2.mono hb1.size)
  obtain ⟨W, hW⟩ : ∃ W, w2.alloc (.cells #[.int .i64 V.time, .string V.rep, .string V.text] 60) = W := ⟨_, rfl⟩
  have hBW : Below w.heap.size w W := by rw [← hW]; exact hB2.alloc hB2.size _
  have x0 : W.cell? ⟨w2.heap.size, 0, none⟩ = some (.int .i64 V.time) := by rw [← hW]; simp
  have x1 : W.cell? ⟨w2.heap.size, 1, none⟩ = some (.string V.rep) := by rw [← hW]; simp
  have x2 : W.cell? ⟨w2.heap.size, 2, none⟩ = some (.string V.text) := by rw [← hW]; simp
  have OW := hid hBW
  clear hb1 hb2 hB2 hBW
  go_wp2
  go_loopw [11, 59] (fun s11 s59 wr => ∃ i : Nat, i ≤ m ∧ s59 = .int .i64 i ∧ s11 = .int .i64 0 ∧ Below W.heap.size W wr) (fun _ s59 _ => len - (intOf s59).toNat)
  case atStart => exact ⟨0, Nat.zero_le _, rfl, rfl, Below.refl _ _⟩
  case round =>
    obtain ⟨i, him, rfl, rfl, hWr⟩ := hrel
    have hiL : i < len := by omega
    obtain ⟨pi, hpi⟩ : ∃ pi, ps[i]'(by rw [HL.out]; exact hiL) = pi := ⟨_, rfl⟩
    have HPI := hid hpi
    have HWr := hid hWr
    clear hpi hWr
    go_wp2
    go_loopw [13, 64] (fun s13 s64 wq => ∃ j : Nat, j ≤ len ∧ s64 = .int .i64 j ∧ s13 = .bool true ∧ Below W.heap.size W wq ∧ Hid (∀ x (hx : x < ps.length), x < j → later ps[x] pi = false)) (fun _ s64 _ => len - (intOf s64).toNat)
    case atStart => exact ⟨0, Nat.zero_le _, rfl, rfl, HWr.out, fun x _ h => absurd h (by omega)⟩
    case round =>
      obtain ⟨j, hj, rfl, rfl, hWq, hall⟩ := hrel
      by_cases hlt : j < len
      · obtain ⟨pj, hpj⟩ : ∃ pj, ps[j]'(by rw [HL.out]; exact hlt) = pj := ⟨_, rfl⟩
        have hold : Below w.heap.size w wr := OW.out.trans (hWq.mono OW.out.size)
        have l1 := (HL0.out j (by rw [HL.out]; exact hlt)).later hold
        rw [hpj] at l1
        have l2 := (HL0.out i (by rw [HL.out]; exact hiL)).later hold
        rw [HPI.out] at l2
        obtain ⟨d0, d1, d2⟩ := l1
        obtain ⟨e0, e1, e2⟩ := l2
        have hb0 : b0 < wr.heap.size := block_lt_of_cell d0
        have HPJ := hid hpj
        have HWq := hid hWq
        have cG := fun W => gt_any pj pi W
        cases hla : later pj pi with
        | true =>
          rw [hla] at cG
          have HLA := hid hla
          clear hla hpj hWq hold
          go_wp2_with fail
          go_region_held3 (fun w' => w'.cell? ⟨b0, off + j * 3, none⟩ = some (.int .i64 pj.time) ∧ w'.cell? ⟨b0, off + j * 3 + 1, none⟩ = some (.string pj.rep) ∧ w'.cell? ⟨b0, off + j * 3 + 2, none⟩ = some (.string pj.text) ∧ w'.cell? ⟨b0, off + i * 3, none⟩ = some (.int .i64 pi.time) ∧ w'.cell? ⟨b0, off + i * 3 + 1, none⟩ = some (.string pi.rep) ∧ w'.cell? ⟨b0, off + i * 3 + 2, none⟩ = some (.string pi.text)) (go_keep)
            (first | (go_at_call 21; refine (cG _).mono ?_; rintro e w' ⟨rfl, hb⟩; have k0 := (hb.cell (p := ⟨b0, off + j * 3, none⟩) hb0).trans d0; have k1 := (hb.cell (p := ⟨b0, off + j * 3 + 1, none⟩) hb0).trans d1; have k2 := (hb.cell (p := ⟨b0, off + j * 3 + 2, none⟩) hb0).trans d2; have k3 := (hb.cell (p := ⟨b0, off + i * 3, none⟩) hb0).trans e0; have k4 := (hb.cell (p := ⟨b0, off + i * 3 + 1, none⟩) hb0).trans e1; have k5 := (hb.cell (p := ⟨b0, off + i * 3 + 2, none⟩) hb0).trans e2))
          go_wp2
          have hne : i ≠ m := by
            rintro rfl
            have h1 := HMX.out j (by rw [HL.out]; exact hlt)
            rw [HPJ.out, HPI.out, HLA.out] at h1
            cases h1
          have hbw : Below W.heap.size W w' := HWq.out.drew.trans (Below.mono hb HWq.out.drew.size)
          go_roundw
          case rel => exact ⟨i + 1, by omega, by go_num, rfl, hbw⟩
          case measure => simp [intOf]; omega
        | false =>
          rw [hla] at cG
          have HLA := hid hla
          clear hla hpj hWq hold
          go_wp2_with fail
          go_region_held3 (fun w' => w'.cell? ⟨b0, off + j * 3, none⟩ = some (.int .i64 pj.time) ∧ w'.cell? ⟨b0, off + j * 3 + 1, none⟩ = some (.string pj.rep) ∧ w'.cell? ⟨b0, off + j * 3 + 2, none⟩ = some (.string pj.text) ∧ w'.cell? ⟨b0, off + i * 3, none⟩ = some (.int .i64 pi.time) ∧ w'.cell? ⟨b0, off + i * 3 + 1, none⟩ = some (.string pi.rep) ∧ w'.cell? ⟨b0, off + i * 3 + 2, none⟩ = some (.string pi.text)) (go_keep)
            (first | (go_at_call 21; refine (cG _).mono ?_; rintro e w' ⟨rfl, hb⟩; have k0 := (hb.cell (p := ⟨b0, off + j * 3, none⟩) hb0).trans d0; have k1 := (hb.cell (p := ⟨b0, off + j * 3 + 1, none⟩) hb0).trans d1; have k2 := (hb.cell (p := ⟨b0, off + j * 3 + 2, none⟩) hb0).trans d2; have k3 := (hb.cell (p := ⟨b0, off + i * 3, none⟩) hb0).trans e0; have k4 := (hb.cell (p := ⟨b0, off + i * 3 + 1, none⟩) hb0).trans e1; have k5 := (hb.cell (p := ⟨b0, off + i * 3 + 2, none⟩) hb0).trans e2))
          go_wp2
          have hbw : Below W.heap.size W w' := HWq.out.drew.trans (Below.mono hb HWq.out.drew.size)
          have hall' : Hid (∀ x (hx : x < ps.length), x < j + 1 → later ps[x] pi = false) := by
            intro x hx hxj
            by_cases e : x = j
            · subst e
              rw [HPJ.out]; exact HLA.out
            · exact hall x hx (by omega)
          go_roundw
          case rel => exact ⟨j + 1, by omega, by go_num, rfl, hbw, hall'⟩
          case measure => simp [intOf]; omega
      · have him2 : i = m := by
          by_cases e : i = m
          · exact e
          · exfalso
            have h1 := HFS.out i (by omega)
            have h2 := hall m hm (by omega)
            have h3 : ps[i]'(by rw [HL.out]; exact hiL) = pi := HPI.out
            rw [h3, h2] at h1
            cases h1
        subst him2
        have hpV : pi = V := HPI.out.symm.trans HMV.out
        subst hpV
        have hold : Below w.heap.size w wr := OW.out.trans (hWq.mono OW.out.size)
        have l2 := (HL0.out i (by rw [HL.out]; exact hiL)).later hold
        rw [HPI.out] at l2
        obtain ⟨e0, e1, e2⟩ := l2
        have hx := block_lt_of_cell x0
        have y0 := (hWq.cell (p := ⟨w2.heap.size, 0, none⟩) hx).trans x0
        have y1 := (hWq.cell (p := ⟨w2.heap.size, 1, none⟩) hx).trans x1
        have y2 := (hWq.cell (p := ⟨w2.heap.size, 2, none⟩) hx).trans x2
        have hlt2 : w2.heap.size < wr.heap.size := block_lt_of_cell y0
        have HO := hid hold
        clear hold hWq hall hx x0 x1 x2
        go_wp2
        go_ret
        exact ⟨ret_bool (by simp), HO.out.alloc HO.out.size _⟩
end Go.Proofs.Ybulkyzi

namespace Go.Proofs.Ybulkyzi
open Go.RowKit
set_option maxRecDepth 100000 in
theorem latest_walk (a : Option Addr) (len cap : Nat) (key : ByteArray) (miss : Bool) (ps : List Put) (w : World) (hlen : ps.length = len) (hm : len ≤ maxLen) (hk : key.size + 1 ≤ maxLen) (hP : Puts w a ps) :
    Calls Yba.prog 5 #[.slice a len cap, .string key, .bool miss] w fun e w' => e = .returned (.bool true) ∧ Below w.heap.size w w' := by
  by_cases hbig : 1024 < len
  · unfold maxLen at hm
    clear hk
    go_enter Yba.func5, Yba.ntmps5
    go_wp2
    go_ret
    exact ⟨rfl, Below.refl _ _⟩
  · rcases (by cases miss <;> simp; omega : (miss = false ∧ 0 < len) ∨ miss = true ∨ (miss = false ∧ len = 0)) with ⟨rfl, h0⟩ | h
    · exact latest_some_walk a len cap key ps w hlen (by omega) hk hP h0
    · exact latest_none_walk a len cap key miss ps w hlen (by omega) hk hP h
end Go.Proofs.Ybulkyzi
