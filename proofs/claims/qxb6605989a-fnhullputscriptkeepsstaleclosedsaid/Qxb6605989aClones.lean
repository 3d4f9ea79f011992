/-
  THE WALKS of cloneInt64s, cloneInt32s, cloneInts, cloneBools: make and copy.
-/
import Derived.Test.Qxb6605989aRows
import Derived.WalkKit
import Derived.WalkSpells
import Derived.WalkLawsBesides
import Derived.Deep.OwnRows
import Derived.Laws.CopyOwn
namespace Go.Proofs.Qxb6605989a
open Go.RowKit

theorem info2 : (Try.prog.info? 2).map (fun i => (i.zero, i.size, i.bytes)) = some (some (.int .i64 0), 1, 8) := by kernel_rfl
theorem info3 : (Try.prog.info? 3).map (fun i => (i.zero, i.size, i.bytes)) = some (some (.int .i64 0), 1, 8) := by kernel_rfl
theorem info4 : (Try.prog.info? 4).map (fun i => (i.zero, i.size, i.bytes)) = some (some (.bool false), 1, 1) := by kernel_rfl
theorem info21 : (Try.prog.info? 21).map (fun i => (i.zero, i.size, i.bytes)) = some (some (.int .i32 0), 1, 4) := by kernel_rfl
theorem size2 : (Try.prog.info? 2).map (·.size) = some 1 := by kernel_rfl
theorem size3 : (Try.prog.info? 3).map (·.size) = some 1 := by kernel_rfl
theorem size4 : (Try.prog.info? 4).map (·.size) = some 1 := by kernel_rfl
theorem size21 : (Try.prog.info? 21).map (·.size) = some 1 := by kernel_rfl

theorem nil22 (w : World) (a : Option Addr) (n c n' c' : Nat) : (binOp .eql 22 (.slice a n c) (.slice Option.none n' c')).run Try.prog w = .ok (.bool a.isNone) w :=
  Lib.run_eql_slice_nil w _ _ a n c n' c' Try.underlying22
theorem nil23 (w : World) (a : Option Addr) (n c n' c' : Nat) : (binOp .eql 23 (.slice a n c) (.slice Option.none n' c')).run Try.prog w = .ok (.bool a.isNone) w :=
  Lib.run_eql_slice_nil w _ _ a n c n' c' Try.underlying23
theorem nil33 (w : World) (a : Option Addr) (n c n' c' : Nat) : (binOp .eql 33 (.slice a n c) (.slice Option.none n' c')).run Try.prog w = .ok (.bool a.isNone) w :=
  Lib.run_eql_slice_nil w _ _ a n c n' c' Try.underlying33
theorem nil34 (w : World) (a : Option Addr) (n c n' c' : Nat) : (binOp .eql 34 (.slice a n c) (.slice Option.none n' c')).run Try.prog w = .ok (.bool a.isNone) w :=
  Lib.run_eql_slice_nil w _ _ a n c n' c' Try.underlying34

/-- The first n of a row, as cells. -/
def cellsOf (V : Nat → Value) (n : Nat) : List Value := (List.range n).map V
theorem cellsOf_length (V : Nat → Value) (n : Nat) : (cellsOf V n).length = n := by simp [cellsOf]
theorem cellsOf_get (V : Nat → Value) (n j : Nat) (h : j < n) : (cellsOf V n)[j]? = some (V j) := by simp [cellsOf, h]
theorem cellsOf_one (V : Nat → Value) (n : Nat) (h : ∀ j, (V j).oneCell' = true) : ∀ v ∈ cellsOf V n, v.oneCell' = true := by
  intro v hv
  simp only [cellsOf, List.mem_map] at hv
  obtain ⟨j, _, rfl⟩ := hv
  exact h j
/-- A source to copy from: of no element, or a row of n values. -/
def Src (w : World) (a : Addr) (n : Nat) (V : Nat → Value) : Prop := ∀ j, j < n → w.cell? (a.add j) = some (V j) ∧ a.block < w.heap.size
theorem src_cells {w w' : World} {a : Addr} {n : Nat} {V : Nat → Value} (h : Src w a n V) (hb : Below w.heap.size w w') : ∀ j v, (cellsOf V n)[j]? = some v → w'.cell? (a.add j) = some v := by
  intro j v hj
  have hlt : j < n := by
    have := (List.getElem?_eq_some_iff.1 hj).1
    rwa [cellsOf_length] at this
  rw [cellsOf_get V n j hlt] at hj
  rw [← hj, ← (h j hlt).1]
  have hbl : (a.add j).block = a.block := by unfold Addr.add; split <;> rfl
  exact hb.cell (by rw [hbl]; exact (h j hlt).2)
theorem row_of_splice {w : World} {g n : Nat} {t : TypeId} {V : Nat → Value} {cur : List Value} (hcur : cur.length = n) (h : w.heap[g]? = some (.cells (splice cur 0 (cellsOf V n)).toArray t (0, 0))) : w.rowIs g t n V := by
  refine ⟨_, h, ?_, fun i hi => ?_⟩
  · have := length_splice cur 0 (cellsOf V n) (by rw [cellsOf_length]; omega)
    simp [this, hcur]
  · have hl := cellsOf_length V n
    simp only [splice, List.take_zero, List.nil_append, Nat.zero_add]
    rw [List.getElem?_toArray, List.getElem?_append_left (by omega)]
    exact cellsOf_get V n i hi
theorem clone64_nil (w : World) : Calls Try.prog 11 #[.slice Option.none 0 0] w fun e w' => e = .returned (.slice Option.none 0 0) ∧ w' = w := by
  have q := nil22
  go_enter Try.func11, Try.ntmps11
  go_wp2
  go_ret
  exact ⟨rfl, rfl⟩

/-- THE copy, ITS RUN: from the source into the row that make has laid. -/
theorem copy_run (w : World) (T E : TypeId) (a : Addr) (n cap : Nat) (V : Nat → Value) (z : Value) (hu : Try.prog.underlying T = some (.slice E)) (hs : (Try.prog.info? E).map (·.size) = some 1)
    (h1 : ∀ j, (V j).oneCell' = true) (hc : Src w a n V) :
    ∃ W2, (Builtin.copy_ #[T, T] 3 #[.slice (some ⟨w.heap.size, 0, Option.none⟩) n n, .slice (some a) n cap]).run Try.prog (w.alloc (.cells (madeCells #[z] n) E)) = .ok (goInt n) W2 ∧ W2.rowIs w.heap.size E n V ∧ Below w.heap.size w W2 := by
  have hB : Below w.heap.size w (w.alloc (.cells (madeCells #[z] n) E)) := (Below.refl _ w).alloc (Nat.le_refl _) _
  have hcp := run_copy_row (P := Try.prog) (w.alloc (.cells (madeCells #[z] n) E)) T T 3 E w.heap.size 0 n n a n cap (madeCells #[z] n) E (cellsOf V n) hu hs (heap_alloc_new _ _) (by rw [cellsOf_length]; simp) (src_cells hc hB)
    (by rw [cellsOf_length, size_madeCells]; omega) (cellsOf_one V n h1)
  rw [cellsOf_length] at hcp
  refine ⟨_, hcp, ?_, below_setRow hB (Nat.le_refl _) _⟩
  refine row_of_splice (cur := (madeCells #[z] n).toList) (by simp [size_madeCells]) ?_
  rw [setRow_heap _ _ (madeCells #[z] n) _ E (0, 0) (heap_alloc_new _ _)]
  simp [splice, cellsOf_length]

set_option maxHeartbeats 400000 in
theorem clone64_some (a : Addr) (n cap : Nat) (A : Nat → Int) (w : World) (hn : n ≤ 1048576) (hc : Src w a n (fun j => .int .i64 (A j))) :
    Calls Try.prog 11 #[.slice (some a) n cap] w fun e w' => e = .returned (.slice (some ⟨w.heap.size, 0, Option.none⟩) n n) ∧ w'.rowIs w.heap.size 2 n (fun j => .int .i64 (A j)) ∧ Below w.heap.size w w' := by
  have q := nil22
  have hmk := run_make_row' (P := Try.prog) 22 2 (.int .i64 0) 8 Try.underlying22 info2 rfl .i64 .i64 n (by omega) (by omega)
  obtain ⟨W2, hcp, hrow, hbel⟩ := copy_run w 22 2 a n cap _ (.int .i64 0) Try.underlying22 size2 (fun _ => rfl) hc
  clear hc
  go_enter Try.func11, Try.ntmps11
  go_wp2
  go_ret
  exact ⟨rfl, hrow, hbel⟩

theorem clone32_nil (w : World) : Calls Try.prog 12 #[.slice Option.none 0 0] w fun e w' => e = .returned (.slice Option.none 0 0) ∧ w' = w := by
  have q := nil23
  go_enter Try.func12, Try.ntmps12
  go_wp2
  go_ret
  exact ⟨rfl, rfl⟩

set_option maxHeartbeats 400000 in
theorem clone32_some (a : Addr) (n cap : Nat) (A : Nat → Int) (w : World) (hn : n ≤ 1048576) (hc : Src w a n (fun j => .int .i32 (A j))) :
    Calls Try.prog 12 #[.slice (some a) n cap] w fun e w' => e = .returned (.slice (some ⟨w.heap.size, 0, Option.none⟩) n n) ∧ w'.rowIs w.heap.size 21 n (fun j => .int .i32 (A j)) ∧ Below w.heap.size w w' := by
  have q := nil23
  have hmk := run_make_row' (P := Try.prog) 23 21 (.int .i32 0) 4 Try.underlying23 info21 rfl .i64 .i64 n (by omega) (by omega)
  obtain ⟨W2, hcp, hrow, hbel⟩ := copy_run w 23 21 a n cap _ (.int .i32 0) Try.underlying23 size21 (fun _ => rfl) hc
  clear hc
  go_enter Try.func12, Try.ntmps12
  go_wp2
  go_ret
  exact ⟨rfl, hrow, hbel⟩

theorem cloneI_nil (w : World) : Calls Try.prog 21 #[.slice Option.none 0 0] w fun e w' => e = .returned (.slice Option.none 0 0) ∧ w' = w := by
  have q := nil34
  go_enter Try.func21, Try.ntmps21
  go_wp2
  go_ret
  exact ⟨rfl, rfl⟩

set_option maxHeartbeats 400000 in
theorem cloneI_some (a : Addr) (n cap : Nat) (A : Nat → Int) (w : World) (hn : n ≤ 1048576) (hc : Src w a n (fun j => .int .i64 (A j))) :
    Calls Try.prog 21 #[.slice (some a) n cap] w fun e w' => e = .returned (.slice (some ⟨w.heap.size, 0, Option.none⟩) n n) ∧ w'.rowIs w.heap.size 3 n (fun j => .int .i64 (A j)) ∧ Below w.heap.size w w' := by
  have q := nil34
  have hmk := run_make_row' (P := Try.prog) 34 3 (.int .i64 0) 8 Try.underlying34 info3 rfl .i64 .i64 n (by omega) (by omega)
  obtain ⟨W2, hcp, hrow, hbel⟩ := copy_run w 34 3 a n cap _ (.int .i64 0) Try.underlying34 size3 (fun _ => rfl) hc
  clear hc
  go_enter Try.func21, Try.ntmps21
  go_wp2
  go_ret
  exact ⟨rfl, hrow, hbel⟩

theorem cloneB_nil (w : World) : Calls Try.prog 20 #[.slice Option.none 0 0] w fun e w' => e = .returned (.slice Option.none 0 0) ∧ w' = w := by
  have q := nil33
  go_enter Try.func20, Try.ntmps20
  go_wp2
  go_ret
  exact ⟨rfl, rfl⟩

set_option maxHeartbeats 400000 in
theorem cloneB_some (a : Addr) (n cap : Nat) (A : Nat → Bool) (w : World) (hn : n ≤ 1048576) (hc : Src w a n (fun j => .bool (A j))) :
    Calls Try.prog 20 #[.slice (some a) n cap] w fun e w' => e = .returned (.slice (some ⟨w.heap.size, 0, Option.none⟩) n n) ∧ w'.rowIs w.heap.size 4 n (fun j => .bool (A j)) ∧ Below w.heap.size w w' := by
  have q := nil33
  have hmk := run_make_row' (P := Try.prog) 33 4 (.bool false) 1 Try.underlying33 info4 rfl .i64 .i64 n (by omega) (by omega)
  obtain ⟨W2, hcp, hrow, hbel⟩ := copy_run w 33 4 a n cap _ (.bool false) Try.underlying33 size4 (fun _ => rfl) hc
  clear hc
  go_enter Try.func20, Try.ntmps20
  go_wp2
  go_ret
  exact ⟨rfl, hrow, hbel⟩

end Go.Proofs.Qxb6605989a
