/-
  SLICES THAT CAME IN, nil or not, and what a clone of one gives.
-/
import Derived.Test.Qxb6605989aClones
namespace Go.Proofs.Qxb6605989a
open Go.RowKit

theorem addp (b off j : Nat) : (⟨b, off, Option.none⟩ : Addr).add j = ⟨b, off + j, Option.none⟩ := by unfold Addr.add; split <;> simp_all

/-- A slice that came in: nil, or leading to n values V. -/
def RowO (w : World) (a : Option Addr) (n cap : Nat) (V : Nat → Value) : Prop := (a = Option.none ∧ n = 0 ∧ cap = 0) ∨ ∃ x, a = some x ∧ Src w x n V

theorem RowO.pos {w : World} {a : Option Addr} {n cap : Nat} {V : Nat → Value} (h : RowO w a n cap V) (hn : 0 < n) :
    ∃ b off, a = some ⟨b, off, Option.none⟩ ∧ ∀ j, j < n → w.cell? ⟨b, off + j, Option.none⟩ = some (V j) := by
  rcases h with ⟨_, h0, _⟩ | ⟨x, rfl, hs⟩
  · omega
  · obtain ⟨b, off, spot⟩ := x
    have hspot : spot = Option.none := by simpa [Addr.add] using World.cell?_spot (hs 0 hn).1
    subst hspot
    exact ⟨b, off, rfl, fun j hj => by have h := (hs j hj).1; rwa [addp] at h⟩

/-- The same slice, in a later world. -/
theorem RowO.later {w w' : World} {a : Option Addr} {n cap : Nat} {V : Nat → Value} (h : RowO w a n cap V) (hb : Below w.heap.size w w') : RowO w' a n cap V := by
  rcases h with h | ⟨x, rfl, hs⟩
  · exact .inl h
  · refine .inr ⟨x, rfl, fun j hj => ?_⟩
    obtain ⟨h1, h2⟩ := hs j hj
    have hbl : (x.add j).block = x.block := by unfold Addr.add; split <;> rfl
    exact ⟨(hb.cell (by rw [hbl]; exact h2)).trans h1, Nat.lt_of_lt_of_le h2 hb.size⟩

/-- What a clone gives: a slice of the same length; where that is not 0, over a new row of the same values. -/
def Cloned (w : World) (n : Nat) (E : TypeId) (V : Nat → Value) (e : Ending) (w' : World) : Prop :=
  ∃ ra rc, e = .returned (.slice ra n rc) ∧ Below w.heap.size w w' ∧ (0 < n → ra = some ⟨w.heap.size, 0, Option.none⟩ ∧ n = rc ∧ w'.rowIs w.heap.size E n V)

theorem clone64_any (a : Option Addr) (n cap : Nat) (A : Nat → Int) (w : World) (hn : n ≤ 1048576) (h : RowO w a n cap (fun j => .int .i64 (A j))) : Calls Try.prog 11 #[.slice a n cap] w (Cloned w n 2 (fun j => .int .i64 (A j))) := by
  rcases h with ⟨rfl, rfl, rfl⟩ | ⟨x, rfl, hs⟩
  · exact (clone64_nil w).mono fun e w' ⟨h1, h2⟩ => ⟨_, _, h1, h2 ▸ Below.refl _ _, fun h => by omega⟩
  · exact (clone64_some x n cap A w hn hs).mono fun e w' ⟨h1, h2, h3⟩ => ⟨_, _, h1, h3, fun _ => ⟨rfl, rfl, h2⟩⟩
theorem clone32_any (a : Option Addr) (n cap : Nat) (A : Nat → Int) (w : World) (hn : n ≤ 1048576) (h : RowO w a n cap (fun j => .int .i32 (A j))) : Calls Try.prog 12 #[.slice a n cap] w (Cloned w n 21 (fun j => .int .i32 (A j))) := by
  rcases h with ⟨rfl, rfl, rfl⟩ | ⟨x, rfl, hs⟩
  · exact (clone32_nil w).mono fun e w' ⟨h1, h2⟩ => ⟨_, _, h1, h2 ▸ Below.refl _ _, fun h => by omega⟩
  · exact (clone32_some x n cap A w hn hs).mono fun e w' ⟨h1, h2, h3⟩ => ⟨_, _, h1, h3, fun _ => ⟨rfl, rfl, h2⟩⟩
theorem cloneI_any (a : Option Addr) (n cap : Nat) (A : Nat → Int) (w : World) (hn : n ≤ 1048576) (h : RowO w a n cap (fun j => .int .i64 (A j))) : Calls Try.prog 21 #[.slice a n cap] w (Cloned w n 3 (fun j => .int .i64 (A j))) := by
  rcases h with ⟨rfl, rfl, rfl⟩ | ⟨x, rfl, hs⟩
  · exact (cloneI_nil w).mono fun e w' ⟨h1, h2⟩ => ⟨_, _, h1, h2 ▸ Below.refl _ _, fun h => by omega⟩
  · exact (cloneI_some x n cap A w hn hs).mono fun e w' ⟨h1, h2, h3⟩ => ⟨_, _, h1, h3, fun _ => ⟨rfl, rfl, h2⟩⟩
theorem cloneB_any (a : Option Addr) (n cap : Nat) (A : Nat → Bool) (w : World) (hn : n ≤ 1048576) (h : RowO w a n cap (fun j => .bool (A j))) : Calls Try.prog 20 #[.slice a n cap] w (Cloned w n 4 (fun j => .bool (A j))) := by
  rcases h with ⟨rfl, rfl, rfl⟩ | ⟨x, rfl, hs⟩
  · exact (cloneB_nil w).mono fun e w' ⟨h1, h2⟩ => ⟨_, _, h1, h2 ▸ Below.refl _ _, fun h => by omega⟩
  · exact (cloneB_some x n cap A w hn hs).mono fun e w' ⟨h1, h2, h3⟩ => ⟨_, _, h1, h3, fun _ => ⟨rfl, rfl, h2⟩⟩

end Go.Proofs.Qxb6605989a
