/- (*Map).latest and (*Map).Get, both answers in one; addwins.LawS1256CGet: the walk. -/
import Derived.Test.YbulkyziMake
namespace Go.Proofs.Ybulkyzi
open Go.RowKit

theorem hid {p : Prop} (h : p) : Hid p := h

def zeroPut : Put := ⟨0, ⟨#[]⟩, ⟨#[]⟩⟩
/-- What 'latest' hands back at a field: the latest put where the field is the key and there is a put. -/
def answer (hit : Bool) (ps : List Put) : Put := if hit = true then best ps else zeroPut

theorem latest_any (Bm b be g cap : Nat) (key k : ByteArray) (ps : List Put) (w : World) (hk : k.size ≤ maxLen) (h : Held w Bm b be g cap key ps) (hcap : cap ≤ 1024) (hit : Bool) (hh : hit = (decide (k = key) && decide (0 < ps.length))) :
    Calls Yba.prog 20 #[.pointer (some ⟨Bm, 0, none⟩), .string k] w fun e w' => e = .returned (.tuple #[.agg #[.int .i64 (answer hit ps).time, .string (answer hit ps).rep, .string (answer hit ps).text], .bool hit]) ∧ Below w.heap.size w w' := by
  cases hit with
  | false =>
    refine latest_no Bm b be g cap key k ps w hk h ?_
    by_cases e : k = key
    · right; simp [e] at hh; simp [hh]
    · exact .inl e
  | true =>
    simp at hh
    obtain ⟨rfl, h0⟩ := hh
    match ps, h0, h with
    | p :: l, _, h => exact latest_yes Bm b be g cap k p l w hk h hcap

set_option maxRecDepth 100000 in
theorem get_any (Bm b be g cap : Nat) (key k : ByteArray) (ps : List Put) (w : World) (hk : k.size ≤ maxLen) (h : Held w Bm b be g cap key ps) (hcap : cap ≤ 1024) (hit : Bool) (hh : hit = (decide (k = key) && decide (0 < ps.length))) :
    Calls Yba.prog 22 #[.pointer (some ⟨Bm, 0, none⟩), .string k] w fun e w' => e = .returned (.tuple #[.string (answer hit ps).text, .bool hit]) ∧ Below w.heap.size w w' := by
  have cL := latest_any Bm b be g cap key k ps w hk h hcap hit hh
  obtain ⟨V, hV⟩ : ∃ V, answer hit ps = V := ⟨_, rfl⟩
  rw [hV] at cL ⊢
  clear hV hh h
  go_enter Yba.func22, Yba.ntmps22
  go_wp2_with (go_at_call 20; refine cL.mono ?_; rintro e w' ⟨rfl, hb⟩)
  go_ret2
  exact ⟨rfl, hb.alloc hb.size _⟩

set_option maxRecDepth 100000 in
set_option maxHeartbeats 2000000 in
theorem get_walk (a : Option Addr) (len cap : Nat) (key : ByteArray) (miss : Bool) (ps : List Put) (w : World) (hlen : ps.length = len) (hm : len ≤ maxLen) (hk : key.size + 1 ≤ maxLen) (hP : Puts w a ps) :
    Calls Yba.prog 6 #[.slice a len cap, .string key, .bool miss] w fun e w' => e = .returned (.bool true) ∧ Below w.heap.size w w' := by
  unfold maxLen at hm
  by_cases hbig : 1024 < len
  · clear hk
    go_enter Yba.func6, Yba.ntmps6
    go_wp2
    go_ret
    exact ⟨rfl, Below.refl _ _⟩
  · obtain ⟨F, hF⟩ : ∃ F, key ++ (⟨#[35]⟩ : ByteArray) = F := ⟨_, rfl⟩
    have hFs : F.size = key.size + 1 := by rw [← hF, ByteArray.size_append]; rfl
    have hFne : ¬ F = key := fun e => by rw [e] at hFs; omega
    have hadd : ∀ W, (Op.stringOp .add key ⟨#[35]⟩).run Yba.prog W = .ok (.string F) W := fun W => by rw [← hF]; exact run_string_add_sum (w := W) key ⟨#[35]⟩ (by unfold maxLen at hk; show key.size + 1 ≤ _; omega)
    have cM := cmap_any a len cap key ps w hlen (by omega) (by omega) hP
    have cL := fun (W : World) Bm b be g (k : ByteArray) (hk' : k.size ≤ maxLen) (h : Held W Bm b be g len key ps) (hit : Bool) hh => latest_any Bm b be g len key k ps W hk' h (by omega) hit hh
    have cG := fun (W : World) Bm b be g (k : ByteArray) (hk' : k.size ≤ maxLen) (h : Held W Bm b be g len key ps) (hit : Bool) hh => get_any Bm b be g len key k ps W hk' h (by omega) hit hh
    have HL : Hid (ps.length = len) := hlen
    have HK : Hid (key.size + 1 ≤ maxLen) := hk
    have HN : Hid (¬ F = key) := hFne
    have HS : Hid (F.size = key.size + 1) := hFs
    have CL := hid cL
    have CG := hid cG
    clear hF hFs hFne hP cL cG hlen hk
    rcases (by cases miss <;> simp; omega : (miss = false ∧ 0 < len) ∨ (miss = false ∧ len = 0) ∨ miss = true) with ⟨rfl, h0⟩ | ⟨rfl, rfl⟩ | rfl
    · obtain ⟨V, hV⟩ : ∃ V, answer true ps = V := ⟨_, rfl⟩
      have HV : Hid (answer true ps = V) := hV
      clear hV
      go_enter Yba.func6, Yba.ntmps6
      go_wp2_with (go_at_call 19; refine cM.mono ?_; rintro e w1 ⟨Bm, b, be, g, rfl, hH, hb1⟩)
      have c1 := CL.out w1 Bm b be g key (by have := HK.out; omega) hH true (by rw [HL.out]; simp [h0])
      rw [HV.out] at c1
      have HH : Hid (Held w1 Bm b be g len key ps) := hH
      clear hH
      refine c1.mono ?_
      rintro r w2 ⟨rfl, hb2⟩
      clear c1
      have HH2 := hid ((HH.out.later hb2).later (w' := w2.alloc (.cells #[.int .i64 V.time, .string V.rep, .string V.text] 60)) ((Below.refl _ _).alloc (Nat.le_refl _) _))
      have c2 := CG.out _ Bm b be g key (by have := HK.out; omega) HH2.out true (by rw [HL.out]; simp [h0])
      rw [HV.out] at c2
      have hB2 : Below w.heap.size w w2 := hb1.trans (hb2.mono hb1.size)
      obtain ⟨W2, hW2⟩ : ∃ W2, w2.alloc (.cells #[.int .i64 V.time, .string V.rep, .string V.text] 60) = W2 := ⟨_, rfl⟩
      rw [hW2] at c2
      have hBW : Below w.heap.size w W2 := by rw [← hW2]; exact hB2.alloc hB2.size _
      have x2 : W2.cell? ⟨w2.heap.size, 2, none⟩ = some (.string V.text) := by rw [← hW2]; simp
      go_wp2_with (go_at_call 22; refine c2.mono ?_; rintro r w3 ⟨rfl, hb3⟩; have x3 := (hb3.cell (p := ⟨w2.heap.size, 2, none⟩) (block_lt_of_cell x2)).trans x2)
      go_ret
      exact ⟨rfl, hBW.trans (Below.mono (by assumption) hBW.size)⟩
    · obtain ⟨V, hV⟩ : ∃ V, answer false ps = V := ⟨_, rfl⟩
      have HV : Hid (answer false ps = V) := hV
      clear hV
      go_enter Yba.func6, Yba.ntmps6
      go_wp2_with (go_at_call 19; refine cM.mono ?_; rintro e w1 ⟨Bm, b, be, g, rfl, hH, hb1⟩)
      have c1 := CL.out w1 Bm b be g key (by have := HK.out; omega) hH false (by rw [HL.out]; simp)
      rw [HV.out] at c1
      have HH : Hid (Held w1 Bm b be g 0 key ps) := hH
      clear hH
      refine c1.mono ?_
      rintro r w2 ⟨rfl, hb2⟩
      clear c1
      have HH2 := hid ((HH.out.later hb2).later (w' := w2.alloc (.cells #[.int .i64 V.time, .string V.rep, .string V.text] 60)) ((Below.refl _ _).alloc (Nat.le_refl _) _))
      have c2 := CG.out _ Bm b be g key (by have := HK.out; omega) HH2.out false (by rw [HL.out]; simp)
      rw [HV.out] at c2
      have hB2 : Below w.heap.size w w2 := hb1.trans (hb2.mono hb1.size)
      obtain ⟨W2, hW2⟩ : ∃ W2, w2.alloc (.cells #[.int .i64 V.time, .string V.rep, .string V.text] 60) = W2 := ⟨_, rfl⟩
      rw [hW2] at c2
      have hBW : Below w.heap.size w W2 := by rw [← hW2]; exact hB2.alloc hB2.size _
      have x2 : W2.cell? ⟨w2.heap.size, 2, none⟩ = some (.string V.text) := by rw [← hW2]; simp
      go_wp2_with (go_at_call 22; refine c2.mono ?_; rintro r w3 ⟨rfl, hb3⟩; have x3 := (hb3.cell (p := ⟨w2.heap.size, 2, none⟩) (block_lt_of_cell x2)).trans x2)
      go_ret
      exact ⟨rfl, hBW.trans (Below.mono (by assumption) hBW.size)⟩
    · obtain ⟨V, hV⟩ : ∃ V, answer false ps = V := ⟨_, rfl⟩
      have HV : Hid (answer false ps = V) := hV
      clear hV
      go_enter Yba.func6, Yba.ntmps6
      go_wp2_with (go_at_call 19; refine cM.mono ?_; rintro e w1 ⟨Bm, b, be, g, rfl, hH, hb1⟩)
      have c1 := CL.out w1 Bm b be g F (by rw [HS.out]; exact HK.out) hH false (by simp [HN.out])
      rw [HV.out] at c1
      have HH : Hid (Held w1 Bm b be g len key ps) := hH
      clear hH
      refine c1.mono ?_
      rintro r w2 ⟨rfl, hb2⟩
      clear c1
      have HH2 := hid ((HH.out.later hb2).later (w' := w2.alloc (.cells #[.int .i64 V.time, .string V.rep, .string V.text] 60)) ((Below.refl _ _).alloc (Nat.le_refl _) _))
      have c2 := CG.out _ Bm b be g F (by rw [HS.out]; exact HK.out) HH2.out false (by simp [HN.out])
      rw [HV.out] at c2
      have hB2 : Below w.heap.size w w2 := hb1.trans (hb2.mono hb1.size)
      obtain ⟨W2, hW2⟩ : ∃ W2, w2.alloc (.cells #[.int .i64 V.time, .string V.rep, .string V.text] 60) = W2 := ⟨_, rfl⟩
      rw [hW2] at c2
      have hBW : Below w.heap.size w W2 := by rw [← hW2]; exact hB2.alloc hB2.size _
      have x2 : W2.cell? ⟨w2.heap.size, 2, none⟩ = some (.string V.text) := by rw [← hW2]; simp
      go_wp2_with (go_at_call 22; refine c2.mono ?_; rintro r w3 ⟨rfl, hb3⟩; have x3 := (hb3.cell (p := ⟨w2.heap.size, 2, none⟩) (block_lt_of_cell x2)).trans x2)
      go_ret
      exact ⟨rfl, hBW.trans (Below.mono (by assumption) hBW.size)⟩
end Go.Proofs.Ybulkyzi
