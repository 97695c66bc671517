/- The road of the two laws on the latest put, below them: the two orders, the map of one key, standing, latest, Get. -/
import Derived.Test.YbulkyziRows
import Derived.Test.YbulkyziPlain
import Derived.WalkKit
import Derived.ProofKit
import Derived.Below
import Derived.WalkSmall
import Derived.WalkLawsBesides
import Derived.Maps.OwnSet
namespace Go.Proofs.Ybulkyzi
open Go.RowKit Go.Maps Go.WideMaps

theorem ret_bool {a b : Bool} (h : a = b) : Ending.returned (.bool a) = .returned (.bool b) := by rw [h]

set_option maxHeartbeats 1000000 in
/-- (Stamp).After. -/
theorem after_any (a b : Put) (w : World) :
    Calls Yba.prog 32 #[.agg #[.int .i64 a.time, .string a.rep], .agg #[.int .i64 b.time, .string b.rep]] w fun e w' => e = .returned (.bool (later a b)) ∧ Below w.heap.size w w' := by
  have hbb : ∀ o o', Below w.heap.size w ((w.alloc o).alloc o') := fun o o' => ((Below.refl _ _).alloc (Nat.le_refl _) _).alloc (by simp) _
  have g := gtr_eq a.rep b.rep
  obtain ⟨R, hR⟩ : ∃ R, Op.bytesLess b.rep.toList a.rep.toList = R := ⟨_, rfl⟩
  have HL : Hid (later a b = (decide (b.time < a.time) || (decide (a.time = b.time) && R))) := by rw [← hR]; rfl
  have HG : Hid ((!Op.bytesLess a.rep.toList b.rep.toList && !a.rep.toList == b.rep.toList) = R) := by rw [← hR]; exact g
  clear g hR
  go_enter Yba.func32, Yba.ntmps32
  go_wp2
  · go_ret
    exact ⟨ret_bool (by rw [HL.out, HG.out]; simp [*]), hbb _ _⟩
  · go_ret
    exact ⟨ret_bool (by rw [HL.out]; simp [*]), hbb _ _⟩
  · go_ret
    exact ⟨ret_bool (by rw [HL.out]; simp [*]), hbb _ _⟩

set_option maxHeartbeats 1000000 in
/-- zzs1256cgt. -/
theorem gt_any (a b : Put) (w : World) :
    Calls Yba.prog 21 #[.agg #[.int .i64 a.time, .string a.rep, .string a.text], .agg #[.int .i64 b.time, .string b.rep, .string b.text]] w fun e w' => e = .returned (.bool (later a b)) ∧ Below w.heap.size w w' := by
  have hbb : ∀ o o', Below w.heap.size w ((w.alloc o).alloc o') := fun o o' => ((Below.refl _ _).alloc (Nat.le_refl _) _).alloc (by simp) _
  have g := gtr_eq a.rep b.rep
  obtain ⟨R, hR⟩ : ∃ R, Op.bytesLess b.rep.toList a.rep.toList = R := ⟨_, rfl⟩
  have HL : Hid (later a b = (decide (b.time < a.time) || (decide (a.time = b.time) && R))) := by rw [← hR]; rfl
  have HG : Hid ((!Op.bytesLess a.rep.toList b.rep.toList && !a.rep.toList == b.rep.toList) = R) := by rw [← hR]; exact g
  clear g hR
  go_enter Yba.func21, Yba.ntmps21
  go_wp2
  · go_ret
    have hne : ¬ a.time = b.time := by simpa using (by assumption : (a.time != b.time) = true)
    exact ⟨ret_bool (by rw [HL.out]; simp [hne]), hbb _ _⟩
  · go_ret
    have he : a.time = b.time := by simpa using (by assumption : (a.time != b.time) = false)
    exact ⟨ret_bool (by rw [HL.out, HG.out]; simp [he]), hbb _ _⟩

/-- (*entry).standing at nil. -/
theorem stand_nil (w : World) : Calls Yba.prog 38 #[.pointer none] w fun e w' => e = .returned (.slice none 0 0) ∧ w' = w := by
  go_enter Yba.func38, Yba.ntmps38
  go_wp2
  go_ret
  exact ⟨rfl, rfl⟩
/-- (*entry).standing: its slice. -/
theorem stand_some (be : Nat) (v : Value) (a : Option Addr) (n c : Nat) (w : World) (hv : v = .slice a n c) (hc : w.cell? ⟨be, 0, none⟩ = some v) : Calls Yba.prog 38 #[.pointer (some ⟨be, 0, none⟩)] w fun e w' => e = .returned v ∧ w' = w := by
  subst hv
  go_enter Yba.func38, Yba.ntmps38
  go_wp2
  go_ret
  exact ⟨rfl, rfl⟩

/-! ### The map of one key -/

/-- How a pointer to a whole block reads, for the proof's own bookkeeping: nil, or the block's number. -/
def ptrElem (v : Value) : Option (DataW Unit × List MemPlace) :=
  match v with
  | .pointer none => some (.nil, [])
  | .pointer (some a) => if a.off = 0 ∧ a.spot = none then some (.lit (.int .i64 (a.block : Int)), []) else none
  | _ => none

theorem ptrElem_some {v : Value} {b : Nat} {ps : List MemPlace} (h : ptrElem v = some (.lit (.int .i64 (b : Int)), ps)) : v = .pointer (some ⟨b, 0, none⟩) := by
  unfold ptrElem at h
  split at h
  · cases h
  · rename_i a
    split at h
    · rename_i hc
      obtain ⟨ab, ao, asp⟩ := a
      simp at hc h
      obtain ⟨rfl, rfl⟩ := hc
      have : ab = b := by omega
      rw [this]
    · cases h
  · cases h
theorem ptrElem_nil {v : Value} {ps : List MemPlace} (h : ptrElem v = some (.nil, ps)) : v = .pointer none := by
  unfold ptrElem at h
  split at h
  · rfl
  · split at h
    · simp at h
    · cases h
  · cases h

theorem law9 : Keyed Yba.prog 9 := string_keyed Yba.underlying9
theorem zero71 (w : World) : (zeroValue 71).run Yba.prog w = .ok (.pointer none) w := by kernel_rfl

/-- The map at block b holds the one key, and there the pointer to block be. -/
def OneMap (w : World) (b : Nat) (key : ByteArray) (be : Nat) : Prop :=
  w.ownsMap Yba.prog 9 ptrElem b 1 ((DataW.map []).put (.string key.data.toList) (.lit (.int .i64 (be : Int))))

theorem OneMap.later {w w' : World} {b be : Nat} {key : ByteArray} (h : OneMap w b key be) (hb : Below w.heap.size w w') : OneMap w' b key be := by
  have hlt := World.ownsMap.lt h
  obtain ⟨es, c, h1, r⟩ := h
  exact ⟨es, c, (hb.block b hlt).trans h1, r⟩

theorem bytes_inj {a b : ByteArray} (h : a.data.toList = b.data.toList) : a = b := by
  cases a; cases b
  exact congrArg ByteArray.mk (Array.toList_inj.1 h)

/-- The literal's one insert. -/
theorem one_made {w : World} {b : Nat} (h : w.ownsMap Yba.prog 9 ptrElem b 0 (.map [])) (key : ByteArray) (hk : key.size ≤ maxLen) (be : Nat) :
    ∃ w', (Instr.mapUpdate 70 (.map (some b)) (.string key) (.pointer (some ⟨be, 0, none⟩))).run Yba.prog w = .ok () w' ∧ OneMap w' b key be ∧ w.grownBy w' (some b) :=
  h.update law9 Yba.underlying70 (by simp [maxLen]) (keyOf_string_mk (P := Yba.prog) Yba.underlying9 hk) (ps := []) (by simp [ptrElem])

/-- 'a.entries[k]'. -/
theorem OneMap.look {w : World} {b be : Nat} {key : ByteArray} (h : OneMap w b key be) (k : ByteArray) (hk : k.size ≤ maxLen) :
    (Instr.lookup 70 (.map (some b)) (.string k) false).run Yba.prog w = .ok (.pointer (if k = key then some ⟨be, 0, none⟩ else none)) w := by
  have hkey := keyOf_string_mk (P := Yba.prog) Yba.underlying9 hk
  obtain ⟨v, ps, hr, hv⟩ := World.ownsMap.lookup h law9 Yba.underlying70 (zero71 w) (zd := .nil) (zp := []) rfl hkey
  rw [hr]
  by_cases e : k = key
  · subst e
    rw [if_pos rfl]
    rw [atKey_put_same ⟨[], rfl⟩ (law9.key hkey)] at hv
    rw [ptrElem_some hv]
  · rw [if_neg e]
    rw [atKey_put_other (fun h => e (bytes_inj (by simpa using h)))] at hv
    rw [ptrElem_nil hv]

/-- (*adds).standing. -/
theorem standing_any (Bm b be : Nat) (key k : ByteArray) (a : Option Addr) (n c : Nat) (w : World) (hk : k.size ≤ maxLen) (hm : w.cell? ⟨Bm, 0, none⟩ = some (.map (some b))) (ho : OneMap w b key be) (he : w.cell? ⟨be, 0, none⟩ = some (.slice a n c)) :
    Calls Yba.prog 31 #[.pointer (some ⟨Bm, 0, none⟩), .string k] w fun e w' => e = .returned (if k = key then .slice a n c else .slice none 0 0) ∧ w' = w := by
  have hl := ho.look k hk
  have cN := stand_nil w
  have cS := stand_some be _ a n c w rfl he
  by_cases e : k = key
  · rw [if_pos e] at hl ⊢
    clear e he ho
    go_enter Yba.func31, Yba.ntmps31
    go_wp2_with (go_at_call 38; refine cS.mono ?_; rintro e w' ⟨rfl, hw⟩; obtain rfl := hw.symm)
    go_ret
    exact ⟨rfl, rfl⟩
  · rw [if_neg e] at hl ⊢
    clear e he ho
    go_enter Yba.func31, Yba.ntmps31
    go_wp2_with (go_at_call 38; refine cN.mono ?_; rintro e w' ⟨rfl, hw⟩; obtain rfl := hw.symm)
    go_ret
    exact ⟨rfl, rfl⟩

end Go.Proofs.Ybulkyzi
