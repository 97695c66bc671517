/-
  'Rows.LawS1250BBytesSaid', proved: the shell that proof-skeleton.mjs wrote for this function, its walk filled, its frame by 'Below'.
-/
import Derived.Test.YbulkywcQuote
import Derived.WalkKit
import Derived.ProofKit
import Derived.OpenShut
import Derived.ShutString
import Derived.ChangeOld
namespace Go.Proofs.Ybulkywc.lawS1250BBytes
open Go.ChangeShapes Go.WideShapes Go.ChangeAt Go.RowKit
open Go.ChangeMaps (open_string shut_string)
set_option linter.unusedVariables false      -- a walk need not use every 'w<i>' (that an integer argument fits its kind)

theorem own : ownKnob Yba.prog.godebug = none := by kernel_rfl

/-- What 'want' holds behind k rounds: the string is not empty, and its first k bytes pass. -/
def wantB (s : ByteArray) (k : Nat) : Bool := decide (0 < s.size) && (s.data.toList.take k).all fun b => okI (b.toNat : Int)

theorem wantB_zero (s : ByteArray) : wantB s 0 = decide (0 < s.size) := by simp [wantB]
theorem wantB_yes (s : ByteArray) (k : Nat) (h : k < s.size) (hk : okI ((s[k]).toNat : Int) = true) : wantB s (k + 1) = wantB s k := by
  cases s with
  | mk d =>
    have h' : k < d.size := h
    have hk' : okI ((d[k]).toNat : Int) = true := hk
    unfold wantB
    rw [List.take_succ_eq_append_getElem (by simpa using h')]
    simp [hk']
theorem wantB_no (s : ByteArray) (k : Nat) (h : k < s.size) (hk : okI ((s[k]).toNat : Int) = false) : wantB s (k + 1) = false := by
  cases s with
  | mk d =>
    have h' : k < d.size := h
    have hk' : okI ((d[k]).toNat : Int) = false := hk
    unfold wantB
    rw [List.take_succ_eq_append_getElem (by simpa using h')]
    simp [hk']
theorem wantB_end (s : ByteArray) (k : Nat) (h : ¬ k < s.size) : wantB s k = quoted s := by
  rw [quoted_size]
  unfold wantB allOk
  rw [List.take_of_length_le (by simp; exact Nat.le_of_not_lt h)]

/-! ### STEP 1: THE WALK -/
set_option maxHeartbeats 1000000 in
theorem walk (a0 : ByteArray) (w0 : a0.size ≤ maxLen) (w : World) :
    Calls Yba.prog 3 #[.string a0] w fun e w' => e = .returned (.bool true) ∧ Below w.heap.size w w' := by
  unfold maxLen at w0
  have hQ := quotable_any a0 w
  by_cases hbig : 4096 < a0.size
  · go_enter Yba.func3, Yba.ntmps3
    go_wp2
    go_ret
    exact ⟨rfl, Below.refl _ _⟩
  · go_enter Yba.func3, Yba.ntmps3
    go_wp2
    go_loop [3, 4] (fun t i => ∃ k : Nat, k ≤ a0.size ∧ i = .int .i64 k ∧ t = .bool (wantB a0 k)) (fun _ i => a0.size - (intOf i).toNat)
    case atStart => exact ⟨0, Nat.zero_le _, rfl, by rw [wantB_zero]⟩
    case round =>
      obtain ⟨k, hk, rfl, rfl⟩ := hrel
      by_cases hlt : k < a0.size
      · have cO := ok_any ((a0[k]).toNat : Int) w
        by_cases ho : okI ((a0[k]).toNat : Int) = true
        · have HW : Hid (wantB a0 (k + 1) = wantB a0 k) := wantB_yes a0 k hlt ho
          rw [ho] at cO
          clear ho
          go_wp2_with (go_at_call 5; refine cO.mono ?_; rintro e w' ⟨rfl, rfl⟩)
          go_round
          case rel => exact ⟨k + 1, by omega, by go_num, by rw [HW.out]⟩
          case measure => simp [intOf]; omega
        · have ho' : okI ((a0[k]).toNat : Int) = false := by simpa using ho
          have HW : Hid (wantB a0 (k + 1) = false) := wantB_no a0 k hlt ho'
          rw [ho'] at cO
          clear ho ho'
          go_wp2_with (go_at_call 5; refine cO.mono ?_; rintro e w' ⟨rfl, rfl⟩)
          go_round
          case rel => exact ⟨k + 1, by omega, by go_num, by rw [HW.out]⟩
          case measure => simp [intOf]; omega
      · have hE := wantB_end a0 k hlt
        rw [hE]
        clear hE
        go_wp2_with (go_at_call 6; refine hQ.mono ?_; rintro e w' ⟨rfl, hb⟩)
        go_ret
        exact ⟨ret_bool (by simp), by assumption⟩

/-! ### THE ROW's STEP: WRITTEN OUT: LEAVE IT -/
set_option maxRecDepth 100000 in
theorem lifted (os : Os) (started : os.Started) (H : Type) (enc : TypeId × Value → H) :
    ReturnsInHanded {} Yba.checked os 3 .any (Rows.lawS1250BBytesSpec.pre6 enc Yba.prog Yba.f3 Rows.lawS1250BBytesRow.domain false) (Rows.lawS1250BBytesSpec.post enc Yba.prog Yba.f3 false true false false) := by
  refine returnsInHanded_of_change (C := Yba.checked) own started (by kernel_rfl) Yba.func3
    (ChangeSpec.witness6 (enc := enc) (C := Yba.checked) false ⟨#[], #[.string ByteArray.empty], []⟩ 8 (by kernel_rfl) (by kernel_rfl) (by kernel_rfl) (by kernel_rfl)) ?_
  intro W base args ds gs before hval0 hW hcnd _
  have hval : ∀ (j : Nat) t v, Yba.f3.params[j]? = some t → args[j]? = some v → Value.okWide Yba.prog W .any base t v := hval0
  have hW' := hW
  obtain ⟨p, q, hA0, hV, rfl, hfz, hnd⟩ := hW
  have hA : DataW.TrodAll enc Yba.prog W 0 (fun _ => true) true Yba.f3.params.toList args.toList ds p := hA0
  rw [Yba.params3] at hA hval
  obtain ⟨v0, vs0, d0, ds0, p0, q0, hargs, rfl, rfl, h0, r0⟩ := trodAll_cons hA
  obtain ⟨rfl, rfl, rfl⟩ := trodAll_nil r0
  obtain rfl : args = #[v0] := by cases args; simp_all
  obtain ⟨rfl, rfl⟩ := trodVars_none hV
  obtain ⟨a0, rfl, rfl, rfl, w0⟩ := open_string Yba.underlying9 (hval 0 9 v0 rfl rfl) h0
  clear hA0 hval0
  simp only [List.append_nil] at hW'
  refine (walk a0 w0 W).mono fun e W' ⟨he, hg⟩ => ?_
  subst he
  exact ⟨_, rfl, _, _, _, [], _, [], hW', trodAll_mk1 (shut_bool Yba.underlying4 _), (trodAll_cons_mk (shut_string Yba.underlying9 w0) trodAll_mk0), rfl, hg.frame _, fun h => by cases h⟩

theorem over : Rows.lawS1250BBytesRow.holds Yba.pinned (OpenSpec.ofChange Rows.lawS1250BBytesSpec) :=
  OpenClaim.holds_of_wide 3 Yba.f3 rfl rfl rfl rfl rfl rfl rfl ⟨rfl, rfl, rfl, rfl, rfl⟩ rfl rfl rfl rfl rfl (by kernel_rfl) Yba.func3 (by kernel_rfl)
    (of_decide_eq_true (by kernel_rfl)) (by unfold Func.isWrapper; first | (rw [if_pos (by decide +kernel)]; kernel_rfl) | (rw [if_neg (by decide +kernel)]; exact ⟨rfl, rfl⟩))
    (fun os started H enc _ => lifted os started H enc)

/-- ████ THE STATEMENT ████ -/
theorem proved : Rows.LawS1250BBytesSaid :=
  over
end Go.Proofs.Ybulkywc.lawS1250BBytes

namespace Go.Proofs.Ybulkywc
/-- THE STATEMENT, by a short name. -/
theorem lawS1250BBytes_holds : Rows.LawS1250BBytesSaid := lawS1250BBytes.proved
end Go.Proofs.Ybulkywc
