/- interlace.LawS1253BExact: the row, and the tied card. -/
import Derived.Test.YbulkyxsDoorExactOpen
namespace Go.Proofs.YbulkyxsDoor
open Go.ChangeShapes Go.WideShapes Go.ChangeAt Go.RowKit

/-- The door's own heap meets the condition: three closed facts. -/
theorem exact_met (os : Os) (args : Array Value) : laidMetH Ybad.prog Rows.lawS1253BExactRow.laid ((World.doorLaid Ybad.prog 37 os).forCall (fun _ _ => 0) ⟨#[], args, []⟩).memory :=
  laidMetH_of_parts3 (fuel := 8) (laidMet_of_run' 8 (by kernel_rfl) (by kernel_rfl)) (by kernel_rfl) (by kernel_rfl)

/-- The walk, at whatever length. -/
theorem exact_any (a : Option Addr) (len cap : Nat) (es : List Ent) (q : Ent) (pick : Int) (use : Bool) (w : World) (hlen : es.length = len) (hm : len ≤ maxLen) (hfit : ∀ e ∈ es, e.fits) (hq : q.fits) (hp : 0 ≤ pick ∧ pick ≤ 255)
    (hes : Script w a es) (hJ : Joins w) :
    Calls Ybad.prog 4 #[.slice a len cap, .agg #[.string q.key, .string q.fin, .int .u8 q.kind, .int .u8 q.mode], .int .u8 pick, .bool use] w fun r w' => r = .returned (.bool true) ∧ Below w.heap.size w w' := by
  by_cases hb : 1024 < len
  · exact exact_big a len cap _ _ _ _ pick use w hb hm
  · exact exact_walk a len cap es q pick use w hlen hfit hq hp hes (by omega) hJ

set_option maxRecDepth 100000 in
theorem exact_lifted (os : Os) (started : os.Started) (H : Type) (enc : TypeId × Value → H) :
    ReturnsInHanded {} Ybad.checked os 4 .any (fun w args => (Rows.lawS1253BExactSpec.pre enc Ybad.prog Ybad.f4 [] false w args ∧ laidMetH Ybad.prog Rows.lawS1253BExactRow.laid w) ∧ sizedMet enc Ybad.prog Ybad.f4 (OpenSpec.ofChange Rows.lawS1253BExactSpec) false w args)
      (Rows.lawS1253BExactSpec.post enc Ybad.prog Ybad.f4 false true false false) := by
  refine returnsInHanded_of_change_and (C := Ybad.checked) (X := fun w _ => laidMetH Ybad.prog Rows.lawS1253BExactRow.laid w) (fun _ _ _ hh h => h.of_heap hh) own started (by kernel_rfl) Ybad.func4
    (ChangeSpec.witness_shaped (enc := enc) (C := Ybad.checked) (os := os) (X := fun w _ => laidMetH Ybad.prog Rows.lawS1253BExactRow.laid w) false (World.doorLaid Ybad.prog 37 os) #[.slice none 0 0, .agg #[.string ByteArray.empty, .string ByteArray.empty, .int .u8 0, .int .u8 0], .int .u8 0, .bool false] 8 rfl (World.shaped_of_RefB (by kernel_rfl) (by kernel_rfl)) (by kernel_rfl) (by kernel_rfl) (by kernel_rfl) (exact_met os _)) ?_
  intro W base args ds gs before hval0 hW _ _ hL _
  have hval : ∀ (j : Nat) t v, Ybad.f4.params[j]? = some t → args[j]? = some v → Value.okWide Ybad.prog W .any base t v := hval0
  have hW' := hW
  obtain ⟨p, q, hA0, hV, rfl, hfz, hnd⟩ := hW
  have hA : DataW.TrodAll enc Ybad.prog W 0 (fun _ => true) true Ybad.f4.params.toList args.toList ds p := hA0
  rw [Ybad.params4] at hA hval
  obtain ⟨v0, vs0, d0, ds0, p0, q0, hargs, rfl, rfl, h0, r0⟩ := trodAll_cons hA
  obtain ⟨v1, vs1, d1, ds1, p1, q1, rfl, rfl, rfl, h1, r1⟩ := trodAll_cons r0
  obtain ⟨v2, vs2, d2, ds2, p2, q2, rfl, rfl, rfl, h2, r2⟩ := trodAll_cons r1
  obtain ⟨v3, vs3, d3, ds3, p3, q3, rfl, rfl, rfl, h3, r3⟩ := trodAll_cons r2
  obtain ⟨rfl, rfl, rfl⟩ := trodAll_nil r3
  obtain rfl : args = #[v0, v1, v2, v3] := by cases args; simp_all
  obtain ⟨a0, len0, cap0, rfl⟩ := okWide_slice Ybad.underlying84 (hval 0 84 v0 rfl rfl)
  obtain ⟨cs1, rfl, hcs1⟩ := okWide_struct Ybad.underlying86 (hval 1 86 v1 rfl rfl)
  have k0 := h0
  have k1 := h1
  have lt0 : ∀ x ∈ p0, x.block < W.heap.size := by obtain ⟨m, hm⟩ := k0; exact DataW.trod_lt m _ _ _ hm
  have lt1 : ∀ x ∈ p1, x.block < W.heap.size := by obtain ⟨m, hm⟩ := k1; exact DataW.trod_lt m _ _ _ hm
  obtain ⟨es, hlen, hmx, hfit, hes⟩ : ∃ es : List Ent, es.length = len0 ∧ len0 ≤ maxLen ∧ (∀ e ∈ es, e.fits) ∧ Script W a0 es := by
    obtain ⟨fuel, hf⟩ := h0
    exact view_entries hf
  obtain ⟨e1, he1, hf1⟩ : ∃ e : Ent, cs1 = #[.string e.key, .string e.fin, .int .u8 e.kind, .int .u8 e.mode] ∧ e.fits := by
    obtain ⟨fuel, hf⟩ := h1
    obtain ⟨e, he, hfe⟩ := ent_of hf
    refine ⟨e, ?_, hfe⟩
    cases cs1
    exact congrArg List.toArray he
  subst he1
  obtain ⟨a2, rfl, rfl, rfl, w2⟩ := open_int Ybad.underlying5 (hval 2 5 v2 rfl rfl) h2
  obtain ⟨a3, rfl, rfl, rfl⟩ := open_bool Ybad.underlying4 (hval 3 4 v3 rfl rfl) h3
  clear hA0 hval0
  refine (exact_any a0 len0 cap0 es e1 a2 a3 W hlen hmx hfit hf1 (u8_bounds w2) hes (joins_of_laid hL)).mono fun e W' ⟨he, bel⟩ => ?_
  subst he
  obtain ⟨gx, rfl⟩ : ∃ gx, gs = [gx] := by
    obtain ⟨_, _, _, _, d, _, h, _⟩ := trodVars_one hV
    exact ⟨d, h⟩
  exact ⟨_, rfl, _, _, _, [], _, q, hW', trodAll_mk1 (shut_bool Ybad.underlying4 _),
    (trodAll_cons_mk (Below.trod laidOut (by kernel_rfl) (of_decide_eq_true (by kernel_rfl)) k0 bel lt0) (trodAll_cons_mk (Below.trod laidOut (by kernel_rfl) (of_decide_eq_true (by kernel_rfl)) k1 bel lt1) (trodAll_cons_mk (shut_int Ybad.underlying5 w2) (trodAll_cons_mk (shut_bool Ybad.underlying4 _) trodAll_mk0)))),
    Below.trodVars laidOut bel (by kernel_rfl) hV, bel.frame _, fun h => by cases h⟩

theorem exact_row : Rows.LawS1253BExactSaid :=
  OpenClaim.holds_of_wide 4 Ybad.f4 rfl rfl rfl rfl rfl rfl rfl ⟨rfl, rfl, rfl, rfl, rfl⟩ rfl rfl rfl rfl rfl (by kernel_rfl) Ybad.func4 (by kernel_rfl)
    (of_decide_eq_true (by kernel_rfl)) (by unfold Func.isWrapper; first | (rw [if_pos (by decide +kernel)]; kernel_rfl) | (rw [if_neg (by decide +kernel)]; exact ⟨rfl, rfl⟩))
    (fun os started H enc _ => exact_lifted os started H enc)

/-- THE TIED CARD -/
theorem lawS1253BExactCard_holds : Rows.LawS1253BExactCardSaid :=
  Claim7.holds_tied_plain_at .later [] [.data] true Rows.lawS1253BExactCard.stood.harness true
    exact_row (fun _ h => by cases h) (by kernel_rfl) (fun _ h => by cases h) lawS1253BExact_row_tie rfl ⟨rfl, rfl⟩ (by kernel_rfl) rfl
    (fun f fn hf hfn => by
      obtain rfl : f = 4 := Option.some.inj ((show Ybad.prog.funcNamed Rows.lawS1253BExactRow.func = some 4 by kernel_rfl).symm.trans hf) |>.symm
      obtain rfl : fn = Ybad.f4 := (Option.some.inj (Ybad.func4.symm.trans hfn)).symm
      exact ⟨by kernel_rfl, fun j t ht => by
        rw [Ybad.params4] at ht
        have hm : t ∈ [84, 86, 5, 4] := by simpa using Array.mem_of_getElem? ht
        have hall : ([84, 86, 5, 4].all fun u => !Ybad.prog.wantsStandIn u) = true := by kernel_rfl
        exact (show Ybad.prog.wantsStandIn t = false by simpa using List.all_eq_true.1 hall t hm)⟩)
    (by kernel_rfl)
end Go.Proofs.YbulkyxsDoor
