/-
  From what the row's frame tells of a slice of integers to what the walks ask.
-/
import Derived.Test.Qxb6605989aRowO
import Derived.Test.Qxb6605989aPlain
namespace Go.Proofs.Qxb6605989a

/-- A slice of integers that came in: it is nil; or it leads to a row of 'cap' cells, the numbers 'zs', each fitting its kind. -/
def IsRow (k : IntKind) (w : World) (a : Option Addr) (len cap : Nat) (zs : List Int) : Prop :=
  (a = none ∧ len = 0 ∧ cap = 0 ∧ zs = []) ∨
  ∃ x, a = some x ∧ len ≤ cap ∧ cap ≤ maxLen ∧ zs.length = cap ∧ (∀ i, i < zs.length → w.cell? (x.add i) = some (.int k (zs.getD i 0))) ∧ ∀ n ∈ zs, (Lit.int k n).wf = true

theorem IsRow.rowO {k : IntKind} {w : World} {a : Option Addr} {len cap : Nat} {zs : List Int} (h : IsRow k w a len cap zs) : RowO w a len cap (fun j => .int k (zs.getD j 0)) := by
  rcases h with ⟨h1, h2, h3, _⟩ | ⟨x, rfl, hle, _, hz, hc, _⟩
  · exact .inl ⟨h1, h2, h3⟩
  · refine .inr ⟨x, rfl, fun j hj => ?_⟩
    have h1 := hc j (by omega)
    have hlt := World.block_lt_of_cell? w _ h1
    have hbl : (x.add j).block = x.block := by unfold Addr.add; split <;> rfl
    exact ⟨h1, by rw [← hbl]; exact hlt⟩
theorem IsRow.wf {k : IntKind} {w : World} {a : Option Addr} {len cap : Nat} {zs : List Int} (h : IsRow k w a len cap zs) : ∀ j, j < len → (Lit.int k (zs.getD j 0)).wf = true := by
  intro j hj
  rcases h with ⟨h1, h2, h3, _⟩ | ⟨x, rfl, hle, _, hz, hc, hwf⟩
  · omega
  · exact hwf _ (by rw [List.getD_eq_getElem?_getD, List.getElem?_eq_getElem (by omega)]; simp)
theorem i64_of_wf {n : Int} (h : (Lit.int .i64 n).wf = true) : I64 n := by
  simp [Lit.wf, IntKind.min, IntKind.max, IntKind.signed, IntKind.bits] at h
  unfold I64; omega
theorem i32_of_wf {n : Int} (h : (Lit.int .i32 n).wf = true) : -2147483648 ≤ n ∧ n ≤ 2147483647 := by
  simp [Lit.wf, IntKind.min, IntKind.max, IntKind.signed, IntKind.bits] at h
  omega
theorem u64_of_wf {n : Int} (h : (Lit.int .u64 n).wf = true) : 0 ≤ n := by
  simp [Lit.wf, IntKind.min, IntKind.max, IntKind.signed, IntKind.bits] at h
  omega
end Go.Proofs.Qxb6605989a
