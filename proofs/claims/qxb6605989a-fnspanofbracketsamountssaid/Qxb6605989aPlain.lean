/-
  THE PLAIN LAW of the ladder: the place past x is the count of the amounts at most x.
-/
import Derived.Test.Qxb6605989aLadder
namespace Go.Proofs.Qxb6605989a

/-- An int64. -/
def I64 (a : Int) : Prop := -9223372036854775808 ≤ a ∧ a ≤ 9223372036854775807

theorem wrap_diff (a b : Int) (ha : I64 a) (hb : I64 b) (h : b ≤ a) :
    IntKind.u64.wrap (IntKind.u64.wrap a - IntKind.u64.wrap b) = a - b := by
  unfold I64 at ha hb
  simp [IntKind.wrap, IntKind.bits, IntKind.signed]
  omega
theorem stp_eq (a b sh : Int) (ha : I64 a) (hb : I64 b) (h : b ≤ a) : stp a b sh = (a - b) / 2 ^ min sh.toNat 64 := by
  unfold stp; rw [wrap_diff a b ha hb h]
theorem pow_pos' (k : Nat) : (0 : Int) < 2 ^ k := Int.pow_pos (by omega)
theorem stp_nonneg (a b sh : Int) (ha : I64 a) (hb : I64 b) (h : b ≤ a) : 0 ≤ stp a b sh := by
  rw [stp_eq a b sh ha hb h]
  exact Int.ediv_nonneg (by omega) (Int.le_of_lt (pow_pos' _))
theorem stp_mono (a a' b sh : Int) (ha : I64 a) (ha' : I64 a') (hb : I64 b) (h : b ≤ a) (h' : a ≤ a') : stp a b sh ≤ stp a' b sh := by
  rw [stp_eq a b sh ha hb h, stp_eq a' b sh ha' hb (by omega)]
  exact Int.ediv_le_ediv (pow_pos' _) (by omega)

theorem cnt_bracket (A : Nat → Int) (x : Int) : ∀ n, (∀ i j, i ≤ j → j < n → A i ≤ A j) → (∀ i, i < cnt A n x → A i ≤ x) ∧ ∀ i, cnt A n x ≤ i → i < n → x < A i
  | 0, _ => ⟨fun i hi => by simp [cnt] at hi, fun i _ hi => by omega⟩
  | n + 1, h => by
    obtain ⟨h1, h2⟩ := cnt_bracket A x n (fun i j a b => h i j a (by omega))
    by_cases e : A n ≤ x
    · have hall : ∀ i, i < n + 1 → A i ≤ x := fun i hi => by have := h i n (by omega) (by omega); omega
      have hc : cnt A n x = n := cnt_split A x n (fun i hi => hall i (by omega)) n (Nat.le_refl _) (fun i a b => by omega)
      have hc' : cnt A (n + 1) x = n + 1 := by unfold cnt; rw [if_pos e, hc]
      rw [hc']
      exact ⟨hall, fun i a b => by omega⟩
    · have hc' : cnt A (n + 1) x = cnt A n x := by rw [cnt, if_neg e]; rfl
      rw [hc']
      refine ⟨h1, fun i a b => ?_⟩
      by_cases e2 : i < n
      · exact h2 i a e2
      · obtain rfl : i = n := by omega
        omega

/-- From neighbours to all pairs. -/
theorem mono_of (A : Nat → Int) (n : Nat) (h : ∀ i, i + 1 < n → A i < A (i + 1)) : ∀ i j, i ≤ j → j < n → A i ≤ A j := by
  intro i j hij
  induction j with
  | zero => intro _; obtain rfl : i = 0 := by omega
            exact Int.le_refl _
  | succ j ih =>
    intro hj
    by_cases e : i = j + 1
    · subst e; exact Int.le_refl _
    · have h1 := ih (by omega) (by omega)
      have h2 := h j hj
      omega

section
variable {A S : Nat → Int} {n m : Nat} {sh x : Int}

theorem lad_below (hA : ∀ i, i < n → I64 (A i)) (hx : I64 x) (h : 0 < n) (h0 : A 0 ≤ x) {i : Nat} (hi : i < n) (hs : stp (A i) (A 0) sh < stp x (A 0) sh) : A i ≤ x := by
  rcases Int.le_total x (A i) with h1 | h1
  · have := stp_mono x (A i) (A 0) sh hx (hA i hi) (hA 0 h) h0 h1
    omega
  · exact h1

/-- x lies past the last step: it lies past all amounts. -/
theorem lad_past_all (hA : ∀ i, i < n → I64 (A i)) (hx : I64 x) (h : 0 < n) (hL : Lad A n S m sh) (h0 : A 0 ≤ x) (hs : (m : Int) - 1 ≤ stp x (A 0) sh) : cnt A n x = n := by
  refine cnt_split A x n (fun i hi => ?_) n (Nat.le_refl _) (fun i a b => by omega)
  have hm := mono_of A n hL.1
  have h1 := stp_mono (A i) (A (n - 1)) (A 0) sh (hA i hi) (hA (n - 1) (by omega)) (hA 0 h) (hm 0 i (by omega) hi) (hm i (n - 1) (by omega) (by omega))
  have h2 := hL.2.2.1
  exact lad_below (sh := sh) hA hx h h0 hi (by omega)

/-- x lies below all amounts. -/
theorem lad_before_all (hL : Lad A n S m sh) (h0 : x < A 0) : cnt A n x = 0 := by
  refine cnt_split A x 0 (fun i hi => by omega) n (Nat.zero_le _) (fun i _ b => ?_)
  have := mono_of A n hL.1 0 i (by omega) b
  omega

/-- x lies in step s: the two starts, and what the search among the step's own amounts adds. -/
theorem lad_in (hA : ∀ i, i < n → I64 (A i)) (hx : I64 x) (h : 0 < n) (hL : Lad A n S m sh) (h0 : A 0 ≤ x) {s : Nat} (hs : stp x (A 0) sh = (s : Int)) (hsm : s + 1 < m) :
    ∃ d1 d2 : Nat, S s = d1 ∧ S (s + 1) = d2 ∧ d1 ≤ d2 ∧ d2 ≤ n ∧ d1 + cnt (fun j => A (d1 + j)) (d2 - d1) x = cnt A n x := by
  obtain ⟨d1, e1, l1, p1, r1⟩ := hL.2.2.2 s (by omega)
  obtain ⟨d2, e2, l2, p2, r2⟩ := hL.2.2.2 (s + 1) hsm
  have hm := mono_of A n hL.1
  have h12 : d1 ≤ d2 := by
    rcases Nat.lt_or_ge d2 d1 with hlt | hge
    · have := p1 d2 hlt
      have := r2 (by omega)
      omega
    · exact hge
  refine ⟨d1, d2, e1, e2, h12, l2, ?_⟩
  obtain ⟨b1, b2⟩ := cnt_bracket (fun j => A (d1 + j)) x (d2 - d1) (fun i j hij hj => hm (d1 + i) (d1 + j) (by omega) (by omega))
  have hle := cnt_le (fun j => A (d1 + j)) x (d2 - d1)
  refine (cnt_split A x _ (fun i hi => ?_) n (by omega) (fun i hi hn => ?_)).symm
  · by_cases hid : i < d1
    · exact lad_below (sh := sh) hA hx h h0 (by omega) (by have := p1 i hid; omega)
    · have := b1 (i - d1) (by omega)
      rwa [show d1 + (i - d1) = i from by omega] at this
  · by_cases hid : i < d2
    · have := b2 (i - d1) (by omega) (by omega)
      rwa [show d1 + (i - d1) = i from by omega] at this
    · have h1 := r2 (by omega)
      have h2 := stp_mono (A d2) (A i) (A 0) sh (hA d2 (by omega)) (hA i hn) (hA 0 h) (hm 0 d2 (by omega) (by omega)) (hm d2 i (by omega) hn)
      by_cases h3 : x < A i
      · exact h3
      · have := stp_mono (A i) x (A 0) sh (hA i hn) hx (hA 0 h) (hm 0 i (by omega) hn) (by omega)
        omega
end

end Go.Proofs.Qxb6605989a
