/- The plain mathematics of the two laws on the latest put: which put stands latest; that the first put which no other exceeds is the one that a fold finds. -/
import GoSem.Claim
namespace Go.Proofs.Ybulkyzi

theorem less_irrefl : ∀ x : List UInt8, Op.bytesLess x x = false
  | [] => rfl
  | a :: x => by
    have h : ¬ a < a := by rw [UInt8.lt_iff_toNat_lt]; omega
    simp [Op.bytesLess, less_irrefl x, h]

theorem less_trans : ∀ x y z : List UInt8, Op.bytesLess x y = true → Op.bytesLess y z = true → Op.bytesLess x z = true
  | [], [], _, h, _ => by simp [Op.bytesLess] at h
  | [], _ :: _, [], _, h => by simp [Op.bytesLess] at h
  | [], _ :: _, _ :: _, _, _ => rfl
  | _ :: _, [], _, h, _ => by simp [Op.bytesLess] at h
  | _ :: _, _ :: _, [], _, h => by simp [Op.bytesLess] at h
  | a :: x, b :: y, c :: z, h1, h2 => by
    simp only [Op.bytesLess, Bool.or_eq_true, Bool.and_eq_true, decide_eq_true_eq, beq_iff_eq, UInt8.lt_iff_toNat_lt] at h1 h2 ⊢
    rcases h1 with h1 | ⟨rfl, h1⟩
    · rcases h2 with h2 | ⟨rfl, h2⟩
      · exact .inl (by omega)
      · exact .inl h1
    · rcases h2 with h2 | ⟨rfl, h2⟩
      · exact .inl h2
      · exact .inr ⟨rfl, less_trans x y z h1 h2⟩

theorem less_total : ∀ x y : List UInt8, Op.bytesLess x y = false → x ≠ y → Op.bytesLess y x = true
  | [], [], _, h => absurd rfl h
  | [], _ :: _, h, _ => by simp [Op.bytesLess] at h
  | _ :: _, [], _, _ => rfl
  | a :: x, b :: y, h, hne => by
    simp only [Op.bytesLess, Bool.or_eq_false_iff, Bool.and_eq_false_iff, decide_eq_false_iff_not, Bool.or_eq_true, Bool.and_eq_true, decide_eq_true_eq, beq_iff_eq, beq_eq_false_iff_ne, UInt8.lt_iff_toNat_lt] at h ⊢
    by_cases e : a = b
    · subst e
      refine .inr ⟨rfl, less_total x y ?_ (fun e => hne (by rw [e]))⟩
      rcases h.2 with h' | h'
      · exact absurd rfl h'
      · exact h'
    · refine .inl ?_
      have : a.toNat ≠ b.toNat := fun h => e (UInt8.toNat_inj.1 h)
      omega

/-- '>' on strings, as the model reckons it. -/
theorem gtr_eq (a b : ByteArray) : (!Op.bytesLess a.toList b.toList && !a.toList == b.toList) = Op.bytesLess b.toList a.toList := by
  by_cases e : a.toList = b.toList
  · rw [e]; simp [less_irrefl]
  · cases h : Op.bytesLess a.toList b.toList with
    | true =>
      have : Op.bytesLess b.toList a.toList = false := by
        cases h2 : Op.bytesLess b.toList a.toList with
        | false => rfl
        | true => have := less_trans _ _ _ h h2; rw [less_irrefl] at this; cases this
      simp [this]
    | false => simp [e, less_total _ _ h e]

/-- One put of the law's script. -/
structure Put where
  time : Int
  rep : ByteArray
  text : ByteArray

/-- a is stamped strictly later than b. -/
def later (a b : Put) : Bool := decide (b.time < a.time) || (decide (a.time = b.time) && Op.bytesLess b.rep.toList a.rep.toList)

theorem later_irrefl (a : Put) : later a a = false := by simp [later, less_irrefl]
theorem later_trans {a b c : Put} (h1 : later a b = true) (h2 : later b c = true) : later a c = true := by
  simp only [later, Bool.or_eq_true, Bool.and_eq_true, decide_eq_true_eq] at h1 h2 ⊢
  rcases h1 with h1 | ⟨e1, h1⟩ <;> rcases h2 with h2 | ⟨e2, h2⟩
  · exact .inl (by omega)
  · exact .inl (by omega)
  · exact .inl (by omega)
  · exact .inr ⟨by omega, less_trans _ _ _ h2 h1⟩
/-- What is no later than b is exceeded by all that exceeds b. -/
theorem later_of_not {a b c : Put} (h1 : later a b = true) (h2 : later c b = false) : later a c = true := by
  simp only [later, Bool.or_eq_false_iff, Bool.and_eq_false_iff, decide_eq_false_iff_not] at h2
  simp only [later, Bool.or_eq_true, Bool.and_eq_true, decide_eq_true_eq] at h1 ⊢
  obtain ⟨g1, g2⟩ := h2
  by_cases e : c.time = b.time
  · have g3 : Op.bytesLess b.rep.toList c.rep.toList = false := by
      rcases g2 with g2 | g2
      · exact absurd e g2
      · exact g2
    rcases h1 with h1 | ⟨e1, h1⟩
    · exact .inl (by omega)
    · refine .inr ⟨by omega, ?_⟩
      by_cases er : b.rep.toList = c.rep.toList
      · rw [← er]; exact h1
      · exact less_trans _ _ _ (less_total _ _ g3 er) h1
  · exact .inl (by rcases h1 with h1 | ⟨e1, _⟩ <;> omega)

/-- What the loop over the puts behind the first has found so far. -/
def bestOf (v : Put) (l : List Put) : Put := l.foldl (fun v a => if later a v = true then a else v) v
theorem bestOf_snoc (v a : Put) (l : List Put) : bestOf v (l ++ [a]) = if later a (bestOf v l) = true then a else bestOf v l := by
  unfold bestOf; rw [List.foldl_append]; rfl

/-- m is the place of the first put which none exceeds. -/
def First (ps : List Put) (m : Nat) : Prop := ∃ h : m < ps.length, (∀ j (hj : j < ps.length), later ps[j] ps[m] = false) ∧ ∀ j (hj : j < m), later ps[m] (ps[j]'(by omega)) = true

theorem best_first (p : Put) : ∀ (n : Nat) (l : List Put), l.length = n → ∃ m, First (p :: l) m ∧ (p :: l)[m]? = some (bestOf p l) := by
  intro n
  induction n with
  | zero =>
    intro l hl
    obtain rfl := List.length_eq_zero_iff.1 hl
    refine ⟨0, ⟨by simp, ?_, fun j hj => absurd hj (by omega)⟩, rfl⟩
    intro j hj
    have : j = 0 := by simp at hj; omega
    subst this
    exact later_irrefl _
  | succ n ih =>
    intro l hl
    rcases List.eq_nil_or_concat l with rfl | ⟨l, a, rfl⟩
    · simp at hl
    rw [List.concat_eq_append] at hl ⊢
    obtain ⟨m, ⟨hm, h1, h2⟩, hb⟩ := ih l (by simpa using hl)
    have hbe : (p :: l)[m] = bestOf p l := by rw [List.getElem?_eq_getElem hm] at hb; exact Option.some.inj hb
    have hsplit : p :: (l ++ [a]) = (p :: l) ++ [a] := rfl
    rw [bestOf_snoc, hsplit]
    by_cases ha : later a (bestOf p l) = true
    · rw [if_pos ha]
      refine ⟨(p :: l).length, ⟨by simp, ?_, ?_⟩, by simp⟩
      · intro j hj
        rw [List.getElem_append_right (Nat.le_refl _)]
        simp only [Nat.sub_self, List.getElem_cons_zero]
        by_cases hjl : j < (p :: l).length
        · rw [List.getElem_append_left hjl]
          cases hc : later (p :: l)[j] a with
          | false => rfl
          | true =>
            have := later_trans hc ha
            rw [← hbe, h1 j hjl] at this
            cases this
        · have : j = (p :: l).length := by simp at hj hjl ⊢; omega
          subst this
          rw [List.getElem_append_right (Nat.le_refl _)]
          simp [later_irrefl]
      · intro j hj
        rw [List.getElem_append_right (Nat.le_refl _), List.getElem_append_left hj]
        simp only [Nat.sub_self, List.getElem_cons_zero]
        exact later_of_not ha (by rw [← hbe]; exact h1 j hj)
    · rw [if_neg ha]
      refine ⟨m, ⟨by simp at hm ⊢; omega, ?_, ?_⟩, by rw [List.getElem?_append_left hm]; exact hb⟩
      · intro j hj
        rw [List.getElem_append_left hm]
        by_cases hjl : j < (p :: l).length
        · rw [List.getElem_append_left hjl]
          exact h1 j hjl
        · have : j = (p :: l).length := by simp at hj hjl ⊢; omega
          subst this
          rw [List.getElem_append_right (Nat.le_refl _)]
          simp only [Nat.sub_self, List.getElem_cons_zero]
          rw [hbe]
          simpa using ha
      · intro j hj
        rw [List.getElem_append_left hm, List.getElem_append_left (by omega)]
        exact h2 j hj

/-- The latest of the puts, where there is one. -/
def best (ps : List Put) : Put := match ps with | [] => ⟨0, ByteArray.empty, ByteArray.empty⟩ | p :: l => bestOf p l
theorem best_spec (ps : List Put) (h : 0 < ps.length) : ∃ m, First ps m ∧ ps[m]? = some (best ps) := by
  match ps, h with
  | p :: l, _ => exact best_first p _ l rfl
end Go.Proofs.Ybulkyzi
