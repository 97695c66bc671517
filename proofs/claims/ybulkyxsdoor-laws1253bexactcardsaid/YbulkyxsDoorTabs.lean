/- The two lock tables of LawS1253BExact as the entries fill them: which mode stands at a span behind the first entries; a store, a step that leaves a table alone, a look-up. -/
import Derived.Test.YbulkyxsDoorRows
import Derived.WalkKit
import Derived.ProofKit
import Derived.Below
import Derived.Maps.OwnSet
import Derived.DeepKeys4
namespace Go.Proofs.YbulkyxsDoor
open Go.RowKit Go.Maps Go.WideMaps

/-- One entry of the law's script. -/
structure Ent where
  key : ByteArray
  fin : ByteArray
  kind : Int
  mode : Int

/-- What the entry's fields can hold. -/
def Ent.fits (e : Ent) : Prop := e.key.size ≤ maxLen ∧ e.fin.size ≤ maxLen ∧ 0 ≤ e.kind ∧ e.kind ≤ 255 ∧ 0 ≤ e.mode ∧ e.mode ≤ 255

/-- Does the entry stand for the span? -/
def Ent.hit (e : Ent) (k f : ByteArray) (kd : Int) : Bool := decide (e.kind % 3 = kd) && decide (e.key = k) && (decide (kd = 0) || decide (e.fin = f))

/-- The mode that stands at the span behind the entries: the last one's. -/
def look (es : List Ent) (k f : ByteArray) (kd : Int) : Option Int := es.foldl (fun acc e => if e.hit k f kd = true then some (e.mode % 4 + 1) else acc) none

theorem look_snoc (es : List Ent) (e : Ent) (k f : ByteArray) (kd : Int) : look (es ++ [e]) k f kd = if e.hit k f kd = true then some (e.mode % 4 + 1) else look es k f kd := by
  simp [look]

/-- What stands is one of the four modes. -/
theorem look_mode (es : List Ent) (k f : ByteArray) (kd h : Int) (H : look es k f kd = some h) : 1 ≤ h ∧ h ≤ 4 := by
  suffices ∀ (es : List Ent) (acc : Option Int), (∀ h, acc = some h → 1 ≤ h ∧ h ≤ 4) → ∀ h, es.foldl (fun acc e => if e.hit k f kd = true then some (e.mode % 4 + 1) else acc) acc = some h → 1 ≤ h ∧ h ≤ 4 from
    this es none (fun _ h => by cases h) h H
  intro es
  induction es with
  | nil => intro acc ha h hh; exact ha h hh
  | cons e es ih =>
    intro acc ha h hh
    refine ih _ ?_ h hh
    intro g hg
    dsimp only at hg
    split at hg
    · cases hg; omega
    · exact ha g hg

/-- The table's answer at a key's literal. -/
def Says (D : DataW Unit) (l : Lit) (o : Option Int) : Prop := Maps.has D l = o.isSome ∧ D.atKey l (.lit (.int .i8 0)) = .lit (.int .i8 (o.getD 0))

theorem says_made (l : Lit) : Says (.map []) l none := ⟨rfl, rfl⟩
theorem says_same {D : DataW Unit} (hD : IsMap D) {l : Lit} (hl : WideAt.IsKeyLit l) (m : Int) : Says (D.put l (.lit (.int .i8 m))) l (some m) :=
  ⟨by rw [has_put_same hD hl]; rfl, by rw [atKey_put_same hD hl]; rfl⟩
theorem says_other {D : DataW Unit} {l l' : Lit} (hne : l' ≠ l) {o : Option Int} (h : Says D l' o) (m : Int) : Says (D.put l (.lit (.int .i8 m))) l' o :=
  ⟨by rw [has_put_other hne]; exact h.1, by rw [atKey_put_other hne]; exact h.2⟩

theorem law9 : Keyed Ybad.prog 9 := string_keyed Ybad.underlying9
theorem laidOutX : laidOutB Ybad.prog = true := by kernel_rfl
theorem row101 : (101 : TypeId) < Ybad.prog.types.size := of_decide_eq_true (by kernel_rfl)
theorem wide101 : (match Ybad.prog.underlying 101 with | some (.array _ _) | some (.struct _) => true | _ => false) = true := by kernel_rfl
set_option maxRecDepth 100000 in
theorem law101 : Keyed Ybad.prog 101 := Keyed.of_law (deep_law_laid laidOutX (m := 3) (by omega) row101 (by kernel_rfl) wide101)
theorem zero59 (w : World) : (zeroValue 59).run Ybad.prog w = .ok (.int .i8 0) w := by kernel_rfl

def spanV (k f : ByteArray) (kd : Int) : Value := .agg #[.string k, .string f, .int .i8 kd]

theorem wf_i8 {n : Int} (h : -128 ≤ n ∧ n ≤ 127) : (Lit.int .i8 n).wf = true := by
  have e1 : IntKind.i8.min = -128 := rfl
  have e2 : IntKind.i8.max = 127 := rfl
  simp [Lit.wf, e1, e2]; omega

theorem cells101 : Ybad.prog.cellsOf 101 = 3 := by kernel_rfl
theorem cells9 : Ybad.prog.cellsOf 9 = 1 := by kernel_rfl
theorem cells97 : Ybad.prog.cellsOf 97 = 1 := by kernel_rfl
theorem key101 : Ybad.prog.keyType 101 = true := by kernel_rfl

theorem lits101 (d : Nat) (k f : ByteArray) (kd : Int) (hk : k.size ≤ maxLen) (hf : f.size ≤ maxLen) (hw : (Lit.int .i8 kd).wf = true) :
    Ybad.prog.keyLits (d + 2) 101 [.string k, .string f, .int .i8 kd] = some [.string k.data.toList, .string f.data.toList, .int .i8 kd] := by
  simp [Program.keyLits, Ybad.underlying101, Ybad.underlying9, Ybad.underlying97, cells101, cells9, cells97, hk, hf, hw]

/-- What a span reads as, as a map's key. -/
theorem keyOf_span (k f : ByteArray) (kd : Int) (hk : k.size ≤ maxLen) (hf : f.size ≤ maxLen) (hw : (Lit.int .i8 kd).wf = true) : ∃ l, keyOf Ybad.prog 101 (spanV k f kd) = some l := by
  have hs : Ybad.prog.types.size + 1 = (Ybad.prog.types.size - 1) + 2 := by have h : (101 : Nat) < Ybad.prog.types.size := row101; omega
  have hform : (spanV k f kd).formed Ybad.prog 101 = true := by simp [spanV, Value.formed, Ybad.underlying101, cells101]
  unfold keyOf
  rw [Ybad.underlying101]
  simp only [key101, hform, Bool.and_self, if_true, hs]
  rw [show (spanV k f kd).cells.toList = [.string k, .string f, .int .i8 kd] from rfl, lits101 _ k f kd hk hf hw]
  exact ⟨_, rfl⟩


/-- 'locks', behind the entries: at each key its last mode. -/
def Tab0 (w : World) (b : Nat) (es : List Ent) : Prop :=
  ∃ D : DataW Unit, w.ownsMap Ybad.prog 9 (plainElem Ybad.prog 59) b es.length D ∧ ∀ k : ByteArray, ∀ f, Says D (.string k.data.toList) (look es k f 0)
/-- 'wideLocks', behind the entries: at each span of another kind its last mode. -/
def Tab1 (w : World) (b : Nat) (es : List Ent) : Prop :=
  ∃ D : DataW Unit, w.ownsMap Ybad.prog 101 (plainElem Ybad.prog 59) b es.length D ∧ ∀ k f kd l, ¬ kd = 0 → keyOf Ybad.prog 101 (spanV k f kd) = some l → Says D l (look es k f kd)

theorem Tab0.kept {w w' : World} {b : Nat} {es : List Ent} (h : Tab0 w b es) (hb : w'.heap[b]? = w.heap[b]?) : Tab0 w' b es := by
  obtain ⟨D, ⟨m, c, h1, r⟩, hS⟩ := h
  exact ⟨D, ⟨m, c, hb.trans h1, r⟩, hS⟩
theorem Tab1.kept {w w' : World} {b : Nat} {es : List Ent} (h : Tab1 w b es) (hb : w'.heap[b]? = w.heap[b]?) : Tab1 w' b es := by
  obtain ⟨D, ⟨m, c, h1, r⟩, hS⟩ := h
  exact ⟨D, ⟨m, c, hb.trans h1, r⟩, hS⟩
theorem Tab0.lt {w : World} {b : Nat} {es : List Ent} (h : Tab0 w b es) : b < w.heap.size := by obtain ⟨D, h1, _⟩ := h; exact h1.lt
theorem Tab1.lt {w : World} {b : Nat} {es : List Ent} (h : Tab1 w b es) : b < w.heap.size := by obtain ⟨D, h1, _⟩ := h; exact h1.lt
theorem tab0_made (w : World) : Tab0 (w.alloc (.map #[] 0)) w.heap.size [] := ⟨.map [], World.ownsMap_made _ _ _ _, fun _ _ => says_made _⟩
theorem tab1_made (w : World) : Tab1 (w.alloc (.map #[] 0)) w.heap.size [] := ⟨.map [], World.ownsMap_made _ _ _ _, fun _ _ _ _ _ _ => says_made _⟩

theorem Tab0.skip {w : World} {b : Nat} {es : List Ent} (h : Tab0 w b es) (e : Ent) (hk : ¬ e.kind % 3 = 0) : Tab0 w b (es ++ [e]) := by
  obtain ⟨D, h1, hS⟩ := h
  refine ⟨D, h1.mono (by simp), fun k f => ?_⟩
  rw [look_snoc, if_neg (by simp [Ent.hit, hk])]
  exact hS k f
theorem Tab1.skip {w : World} {b : Nat} {es : List Ent} (h : Tab1 w b es) (e : Ent) (hk : e.kind % 3 = 0) : Tab1 w b (es ++ [e]) := by
  obtain ⟨D, h1, hS⟩ := h
  refine ⟨D, h1.mono (by simp), fun k f kd l hkd hl => ?_⟩
  rw [look_snoc, if_neg (by simp [Ent.hit, hk]; intro h; omega)]
  exact hS k f kd l hkd hl

theorem Tab0.store {w : World} {b : Nat} {es : List Ent} (h : Tab0 w b es) (e : Ent) (hk : e.kind % 3 = 0) (hf : e.fits) (hn : es.length < maxLen) :
    ∃ w', (Instr.mapUpdate 88 (.map (some b)) (.string e.key) (.int .i8 (e.mode % 4 + 1))).run Ybad.prog w = .ok () w' ∧ Tab0 w' b (es ++ [e]) ∧ w.grownBy w' (some b) := by
  obtain ⟨D, h1, hS⟩ := h
  obtain ⟨f1, f2, f3, f4, f5, f6⟩ := hf
  have hkey := keyOf_string_mk (P := Ybad.prog) Ybad.underlying9 f1
  obtain ⟨w', hr, ho, hg⟩ := h1.update law9 Ybad.underlying88 hn hkey (plainElem_int Ybad.underlying59 (wf_i8 (n := e.mode % 4 + 1) (by omega)))
  refine ⟨w', hr, ⟨_, by simpa using ho, fun k f => ?_⟩, hg⟩
  rw [look_snoc]
  by_cases hek : e.key = k
  · subst hek
    rw [if_pos (by simp [Ent.hit, hk])]
    exact says_same h1.isMap (law9.key hkey) _
  · rw [if_neg (by simp [Ent.hit, hek])]
    refine says_other ?_ (hS k f) _
    intro h
    apply hek
    have h' : k.data.toList = e.key.data.toList := by simpa using h
    have h2 := Array.toList_inj.1 h'
    cases hE : e.key; cases k
    rw [hE] at h2
    simp at h2
    rw [h2]
theorem Tab1.store {w : World} {b : Nat} {es : List Ent} (h : Tab1 w b es) (e : Ent) (hf : e.fits) (hn : es.length < maxLen) :
    ∃ w', (Instr.mapUpdate 89 (.map (some b)) (.agg #[.string e.key, .string e.fin, .int .i8 (e.kind % 3)]) (.int .i8 (e.mode % 4 + 1))).run Ybad.prog w = .ok () w' ∧ Tab1 w' b (es ++ [e]) ∧ w.grownBy w' (some b) := by
  obtain ⟨D, h1, hS⟩ := h
  obtain ⟨f1, f2, f3, f4, f5, f6⟩ := hf
  obtain ⟨l0, hkey⟩ := keyOf_span e.key e.fin (e.kind % 3) f1 f2 (wf_i8 (by omega))
  obtain ⟨w', hr, ho, hg⟩ := h1.update law101 Ybad.underlying89 hn hkey (plainElem_int Ybad.underlying59 (wf_i8 (n := e.mode % 4 + 1) (by omega)))
  refine ⟨w', hr, ⟨_, by simpa using ho, fun k f kd l hkd hl => ?_⟩, hg⟩
  rw [look_snoc]
  by_cases hek : e.hit k f kd = true
  · rw [if_pos hek]
    simp [Ent.hit, hkd] at hek
    obtain ⟨⟨rfl, rfl⟩, rfl⟩ := hek
    obtain rfl := Option.some.inj (hkey.symm.trans hl)
    exact says_same h1.isMap (law101.key hkey) _
  · rw [if_neg hek]
    refine says_other ?_ (hS k f kd l hkd hl) _
    rintro rfl
    have := law101.inj hkey hl
    simp only [spanV, Value.agg.injEq] at this
    simp at this
    exact hek (by simp [Ent.hit, this, hkd])

/-- 'mode, ok := lk.locks[k]'. -/
theorem Tab0.lookup {w : World} {b : Nat} {es : List Ent} (h : Tab0 w b es) (k f : ByteArray) (hk : k.size ≤ maxLen) :
    (Instr.lookup 88 (.map (some b)) (.string k) true).run Ybad.prog w = .ok (.tuple #[.int .i8 ((look es k f 0).getD 0), .bool (look es k f 0).isSome]) w := by
  obtain ⟨D, h1, hS⟩ := h
  obtain ⟨v, ps, hr, hv⟩ := h1.look_ok law9 Ybad.underlying88 (zero59 w) (plainElem_int Ybad.underlying59 (wf_i8 (n := 0) (by omega))) (keyOf_string_mk (P := Ybad.prog) Ybad.underlying9 hk)
  obtain ⟨c, rfl, hc, _⟩ := plainElem_int_inv Ybad.underlying59 hv
  rw [(hS k f).2] at hc
  simp at hc
  rw [hr, (hS k f).1, hc.1]
/-- 'mode, ok := lk.wideLocks[sp]'. -/
theorem Tab1.lookup {w : World} {b : Nat} {es : List Ent} (h : Tab1 w b es) (k f : ByteArray) (kd : Int) (hkd : ¬ kd = 0) (hk : k.size ≤ maxLen) (hf : f.size ≤ maxLen) (hw : (Lit.int .i8 kd).wf = true) :
    (Instr.lookup 89 (.map (some b)) (.agg #[.string k, .string f, .int .i8 kd]) true).run Ybad.prog w = .ok (.tuple #[.int .i8 ((look es k f kd).getD 0), .bool (look es k f kd).isSome]) w := by
  obtain ⟨D, h1, hS⟩ := h
  obtain ⟨l0, hkey⟩ := keyOf_span k f kd hk hf hw
  obtain ⟨v, ps, hr, hv⟩ := h1.look_ok law101 Ybad.underlying89 (zero59 w) (plainElem_int Ybad.underlying59 (wf_i8 (n := 0) (by omega))) hkey
  obtain ⟨c, rfl, hc, _⟩ := plainElem_int_inv Ybad.underlying59 hv
  have hS' := hS k f kd l0 hkd hkey
  rw [hS'.2] at hc
  simp at hc
  have hr' : (Instr.lookup 89 (.map (some b)) (.agg #[.string k, .string f, .int .i8 kd]) true).run Ybad.prog w = _ := hr
  rw [hr', hS'.1, hc.1]
end Go.Proofs.YbulkyxsDoor
