/-
  THE PLAIN LAW of the hull tree's marks: nodes, ancestors, what a climb marks. No Go in sight.
-/
import Derived.Test.Qxb6605989aRows
namespace Go.Proofs.Qxb6605989a

/-- k is l or lies above it in the heap's tree (0 lies above every node). -/
def Anc (l k : Nat) : Prop := ∃ j : Nat, l / 2 ^ j = k

theorem anc_self (l : Nat) : Anc l l := ⟨0, by simp⟩
theorem anc_le {l k : Nat} (h : Anc l k) : k ≤ l := by
  obtain ⟨j, rfl⟩ := h
  exact Nat.div_le_self _ _
theorem half_pow (l j : Nat) : l / 2 ^ (j + 1) = l / 2 / 2 ^ j := by
  rw [Nat.pow_succ, Nat.mul_comm, Nat.div_div_eq_div_mul]
theorem anc_step (k j : Nat) : Anc k j ↔ j = k ∨ Anc (k / 2) j := by
  constructor
  · rintro ⟨t, h⟩
    cases t with
    | zero => left; simpa using h.symm
    | succ t => right; exact ⟨t, by rw [← half_pow]; exact h⟩
  · rintro (rfl | ⟨t, h⟩)
    · exact anc_self _
    · exact ⟨t + 1, by rw [half_pow]; exact h⟩
theorem anc_up {l k : Nat} (h : Anc l k) : Anc l (k / 2) := by
  obtain ⟨t, rfl⟩ := h
  exact ⟨t + 1, by rw [Nat.pow_succ, Nat.div_div_eq_div_mul]⟩
theorem anc_zero {j : Nat} (h : Anc 0 j) : j = 0 := by have := anc_le h; omega

/-- A node is stale wherever one below it is. -/
def Closed (St : Nat → Bool) (m : Nat) : Prop := ∀ k, 2 ≤ k → k < m → St k = true → St (k / 2) = true

theorem closed_anc {St : Nat → Bool} {m : Nat} (h : Closed St m) : ∀ (t k : Nat), k < m → St k = true → 1 ≤ k / 2 ^ t → St (k / 2 ^ t) = true
  | 0, k, _, hs, _ => by simpa using hs
  | t + 1, k, hk, hs, h1 => by
    rw [half_pow] at h1 ⊢
    have h2 : 1 ≤ k / 2 := Nat.le_trans h1 (Nat.div_le_self _ _)
    exact closed_anc h t (k / 2) (by omega) (h k (by omega) hk hs) h1

/-- What a climb from leaf has marked when it stands at k. -/
def MarkTo (St : Nat → Bool) (leaf k : Nat) (T : Nat → Bool) : Prop := Anc leaf k ∧ ∀ j, T j = true ↔ St j = true ∨ (1 ≤ j ∧ Anc leaf j ∧ ¬ Anc k j)
/-- What the model has marked when it stands at c. -/
def MarkUp (St : Nat → Bool) (leaf c : Nat) (T : Nat → Bool) : Prop := ∀ j, T j = true ↔ St j = true ∨ (1 ≤ j ∧ j < c ∧ Anc leaf j)
/-- All of leaf's path is marked, and nothing besides. -/
def Marked (St : Nat → Bool) (leaf m : Nat) (T : Nat → Bool) : Prop := ∀ j, j < m → (T j = true ↔ St j = true ∨ (1 ≤ j ∧ Anc leaf j))

/-- The store of 'true' at k. -/
def mark (T : Nat → Bool) (k : Nat) : Nat → Bool := fun j => if j = k then true else T j
theorem mark_iff (T : Nat → Bool) (k j : Nat) : mark T k j = true ↔ j = k ∨ T j = true := by
  unfold mark
  by_cases e : j = k
  · simp [e]
  · simp [e]

theorem markTo_start (St : Nat → Bool) (leaf : Nat) : MarkTo St leaf leaf St := ⟨anc_self _, fun _ => ⟨Or.inl, fun h => h.elim id fun h => absurd h.2.1 h.2.2⟩⟩
theorem markTo_step {St T : Nat → Bool} {leaf k : Nat} (h : MarkTo St leaf k T) (hk : 1 ≤ k) : MarkTo St leaf (k / 2) (mark T k) := by
  refine ⟨anc_up h.1, fun j => ?_⟩
  rw [mark_iff, h.2 j]
  constructor
  · rintro (rfl | h1 | ⟨h1, h2, h3⟩)
    · exact .inr ⟨hk, h.1, fun h4 => by have := anc_le h4; omega⟩
    · exact .inl h1
    · exact .inr ⟨h1, h2, fun h4 => h3 ((anc_step k j).2 (.inr h4))⟩
  · rintro (h1 | ⟨h1, h2, h3⟩)
    · exact .inr (.inl h1)
    · by_cases e : j = k
      · exact .inl e
      · exact .inr (.inr ⟨h1, h2, fun h4 => ((anc_step k j).1 h4).elim e h3⟩)
theorem markTo_top {St T : Nat → Bool} {leaf m : Nat} (h : MarkTo St leaf 0 T) : Marked St leaf m T := by
  intro j _
  rw [h.2 j]
  constructor
  · rintro (h1 | ⟨h1, h2, _⟩)
    · exact .inl h1
    · exact .inr ⟨h1, h2⟩
  · rintro (h1 | ⟨h1, h2⟩)
    · exact .inl h1
    · exact .inr ⟨h1, h2, fun h3 => by have := anc_zero h3; omega⟩
theorem markTo_stop {St T : Nat → Bool} {leaf k m : Nat} (h : MarkTo St leaf k T) (hc : Closed St m) (hkm : k < m) (hT : T k = true) : Marked St leaf m T := by
  have hs : St k = true := by
    rcases (h.2 k).1 hT with h1 | ⟨_, _, h1⟩
    · exact h1
    · exact absurd (anc_self k) h1
  intro j _
  rw [h.2 j]
  constructor
  · rintro (h1 | ⟨h1, h2, _⟩)
    · exact .inl h1
    · exact .inr ⟨h1, h2⟩
  · rintro (h1 | ⟨h1, h2⟩)
    · exact .inl h1
    · by_cases e : Anc k j
      · obtain ⟨t, rfl⟩ := e
        exact .inl (closed_anc hc t k hkm hs h1)
      · exact .inr ⟨h1, h2, e⟩

theorem markUp_start (St : Nat → Bool) (leaf : Nat) : MarkUp St leaf 1 St := fun j => ⟨Or.inl, fun h => h.elim id fun h => by have := h.1; have := h.2.1; omega⟩
theorem markUp_yes {St T : Nat → Bool} {leaf c : Nat} (h : MarkUp St leaf c T) (hc : 1 ≤ c) (ha : Anc leaf c) : MarkUp St leaf (c + 1) (mark T c) := by
  intro j
  rw [mark_iff, h j]
  constructor
  · rintro (rfl | h1 | ⟨h1, h2, h3⟩)
    · exact .inr ⟨hc, by omega, ha⟩
    · exact .inl h1
    · exact .inr ⟨h1, by omega, h3⟩
  · rintro (h1 | ⟨h1, h2, h3⟩)
    · exact .inr (.inl h1)
    · by_cases e : j = c
      · exact .inl e
      · exact .inr (.inr ⟨h1, by omega, h3⟩)
theorem markUp_no {St T : Nat → Bool} {leaf c : Nat} (h : MarkUp St leaf c T) (ha : ¬ Anc leaf c) : MarkUp St leaf (c + 1) T := by
  intro j
  rw [h j]
  constructor
  · rintro (h1 | ⟨h1, h2, h3⟩)
    · exact .inl h1
    · exact .inr ⟨h1, by omega, h3⟩
  · rintro (h1 | ⟨h1, h2, h3⟩)
    · exact .inl h1
    · by_cases e : j = c
      · subst e; exact absurd h3 ha
      · exact .inr ⟨h1, by omega, h3⟩
theorem markUp_end {St T : Nat → Bool} {leaf m : Nat} (h : MarkUp St leaf m T) : Marked St leaf m T := by
  intro j hj
  rw [h j]
  constructor
  · rintro (h1 | ⟨h1, _, h3⟩)
    · exact .inl h1
    · exact .inr ⟨h1, h3⟩
  · rintro (h1 | ⟨h1, h3⟩)
    · exact .inl h1
    · exact .inr ⟨h1, hj, h3⟩

theorem marked_same {St T T' : Nat → Bool} {leaf m : Nat} (h : Marked St leaf m T) (h' : Marked St leaf m T') : ∀ j, j < m → T j = T' j := by
  intro j hj
  rw [Bool.eq_iff_iff, h j hj, h' j hj]
theorem marked_closed {St T : Nat → Bool} {leaf m : Nat} (h : Marked St leaf m T) (hc : Closed St m) : Closed T m := by
  intro k h2 hk hT
  rw [h (k / 2) (by omega)]
  rcases (h k hk).1 hT with h1 | ⟨h1, h3⟩
  · exact .inl (hc k h2 hk h1)
  · exact .inr ⟨by omega, anc_up h3⟩

end Go.Proofs.Qxb6605989a
