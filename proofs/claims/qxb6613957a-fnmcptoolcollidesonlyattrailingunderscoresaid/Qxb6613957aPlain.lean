/-
  OURS. THE PLAIN LAW: no Go in sight.
-/
namespace Go.Proofs.Qxb6613957a

/-- No two bytes 95 side by side. -/
def NoDbl (l : List UInt8) : Prop := ∀ k : Nat, l[k]? = some (95 : UInt8) → l[k + 1]? = some (95 : UInt8) → False

/-- The longer of the two servers ends in the one underscore. -/
theorem cut_long (p s1 t1 s2 t2 : List UInt8) (h1 : NoDbl s1) (hlen : s2.length < s1.length) (h : p ++ s1 ++ [95, 95] ++ t1 = p ++ s2 ++ [95, 95] ++ t2) :
    s1 = s2 ++ [95] ∧ t2 = 95 :: t1 := by
  have e : s1 ++ ([95, 95] ++ t1) = s2 ++ ([95, 95] ++ t2) := by
    have := h
    simp only [List.append_assoc] at this
    exact List.append_cancel_left this
  obtain ⟨x, hx⟩ : ∃ x, s1 = s2 ++ x := by
    have hp : s2 <+: s1 := List.prefix_of_prefix_length_le ⟨_, rfl⟩ ⟨_, e⟩ (Nat.le_of_lt hlen)
    obtain ⟨x, hx⟩ := hp
    exact ⟨x, hx.symm⟩
  subst hx
  rw [List.append_assoc] at e
  have e2 := List.append_cancel_left e
  match x, e2 with
  | [], _ => simp at hlen
  | [y], e2 =>
    simp only [List.cons_append, List.nil_append, List.cons.injEq] at e2
    obtain ⟨rfl, _, e3⟩ := e2
    exact ⟨rfl, e3.symm⟩
  | y :: z :: r, e2 =>
    simp only [List.cons_append, List.nil_append, List.cons.injEq] at e2
    obtain ⟨rfl, rfl, _⟩ := e2
    exact (h1 s2.length (by simp) (by simp)).elim

theorem back_long (p s t : List UInt8) : p ++ (s ++ [95]) ++ [95, 95] ++ t = p ++ s ++ [95, 95] ++ (95 :: t) := by
  simp [List.append_assoc]

theorem same_len (p s1 t1 s2 t2 : List UInt8) (hlen : s1.length = s2.length) (h : p ++ s1 ++ [95, 95] ++ t1 = p ++ s2 ++ [95, 95] ++ t2) : s1 = s2 ∧ t1 = t2 := by
  have e : s1 ++ ([95, 95] ++ t1) = s2 ++ ([95, 95] ++ t2) := by
    have := h
    simp only [List.append_assoc] at this
    exact List.append_cancel_left this
  obtain ⟨h1, h2⟩ := List.append_inj e hlen
  exact ⟨h1, List.append_cancel_left h2⟩

/-- THE SEVEN WAYS through the law's tests. -/
theorem ways (p s1 t1 s2 t2 : List UInt8) (n1 : NoDbl s1) (n2 : NoDbl s2) :
    (s1 = s2 ∧ t1 = t2 ∧ p ++ s1 ++ [95, 95] ++ t1 = p ++ s2 ++ [95, 95] ++ t2) ∨
    (s1 = s2 ∧ t1 ≠ t2 ∧ s1 ≠ s2 ++ [95] ∧ s2 ≠ s1 ++ [95] ∧ p ++ s1 ++ [95, 95] ++ t1 ≠ p ++ s2 ++ [95, 95] ++ t2) ∨
    (s1 ≠ s2 ∧ s1 = s2 ++ [95] ∧ t2 = [95] ++ t1 ∧ p ++ s1 ++ [95, 95] ++ t1 = p ++ s2 ++ [95, 95] ++ t2) ∨
    (s1 ≠ s2 ∧ s1 = s2 ++ [95] ∧ t2 ≠ [95] ++ t1 ∧ s2 ≠ s1 ++ [95] ∧ p ++ s1 ++ [95, 95] ++ t1 ≠ p ++ s2 ++ [95, 95] ++ t2) ∨
    (s1 ≠ s2 ∧ s1 ≠ s2 ++ [95] ∧ s2 = s1 ++ [95] ∧ t1 = [95] ++ t2 ∧ p ++ s1 ++ [95, 95] ++ t1 = p ++ s2 ++ [95, 95] ++ t2) ∨
    (s1 ≠ s2 ∧ s1 ≠ s2 ++ [95] ∧ s2 = s1 ++ [95] ∧ t1 ≠ [95] ++ t2 ∧ p ++ s1 ++ [95, 95] ++ t1 ≠ p ++ s2 ++ [95, 95] ++ t2) ∨
    (s1 ≠ s2 ∧ s1 ≠ s2 ++ [95] ∧ s2 ≠ s1 ++ [95] ∧ p ++ s1 ++ [95, 95] ++ t1 ≠ p ++ s2 ++ [95, 95] ++ t2) := by
  have noself : ∀ s : List UInt8, s ≠ s ++ [95] := fun s e => by
    have := congrArg List.length e
    simp at this
  have key : p ++ s1 ++ [95, 95] ++ t1 = p ++ s2 ++ [95, 95] ++ t2 → (s1 = s2 ∧ t1 = t2) ∨ (s1 = s2 ++ [95] ∧ t2 = 95 :: t1) ∨ (s2 = s1 ++ [95] ∧ t1 = 95 :: t2) := by
    intro h
    rcases Nat.lt_trichotomy s1.length s2.length with hl | hl | hl
    · exact Or.inr (Or.inr (cut_long p s2 t2 s1 t1 n2 hl h.symm))
    · exact Or.inl (same_len p s1 t1 s2 t2 hl h)
    · exact Or.inr (Or.inl (cut_long p s1 t1 s2 t2 n1 hl h))
  by_cases h1 : s1 = s2
  · subst h1
    by_cases h2 : t1 = t2
    · subst h2; exact Or.inl ⟨rfl, rfl, rfl⟩
    · refine Or.inr (Or.inl ⟨rfl, h2, noself _, noself _, fun h => ?_⟩)
      rcases key h with ⟨_, e⟩ | ⟨e, _⟩ | ⟨e, _⟩
      · exact h2 e
      · exact noself _ e
      · exact noself _ e
  · by_cases h3 : s1 = s2 ++ [95]
    · by_cases h4 : t2 = [95] ++ t1
      · refine Or.inr (Or.inr (Or.inl ⟨h1, h3, h4, ?_⟩))
        rw [h3, h4]; exact back_long p s2 t1
      · have h5 : s2 ≠ s1 ++ [95] := fun e => by
          have a := congrArg List.length e
          have b := congrArg List.length h3
          simp at a b
          omega
        refine Or.inr (Or.inr (Or.inr (Or.inl ⟨h1, h3, h4, h5, fun h => ?_⟩)))
        rcases key h with ⟨e, _⟩ | ⟨_, e⟩ | ⟨e, _⟩
        · exact h1 e
        · exact h4 e
        · exact h5 e
    · by_cases h5 : s2 = s1 ++ [95]
      · by_cases h6 : t1 = [95] ++ t2
        · refine Or.inr (Or.inr (Or.inr (Or.inr (Or.inl ⟨h1, h3, h5, h6, ?_⟩))))
          rw [h5, h6]; exact (back_long p s1 t2).symm
        · refine Or.inr (Or.inr (Or.inr (Or.inr (Or.inr (Or.inl ⟨h1, h3, h5, h6, fun h => ?_⟩)))))
          rcases key h with ⟨e, _⟩ | ⟨e, _⟩ | ⟨_, e⟩
          · exact h1 e
          · exact h3 e
          · exact h6 e
      · refine Or.inr (Or.inr (Or.inr (Or.inr (Or.inr (Or.inr ⟨h1, h3, h5, fun h => ?_⟩)))))
        rcases key h with ⟨e, _⟩ | ⟨e, _⟩ | ⟨e, _⟩
        · exact h1 e
        · exact h3 e
        · exact h5 e

end Go.Proofs.Qxb6613957a
