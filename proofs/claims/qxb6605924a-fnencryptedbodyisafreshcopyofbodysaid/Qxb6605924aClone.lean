/-
  THE WALKS of cloneBytes and zzBytes.
-/
import Derived.Test.Qxb6605924aRows
import Derived.WalkKit
import Derived.WalkSpells
import Derived.WalkLawsBesides
import Derived.Deep.OwnRows
namespace Go.Proofs.Qxb6605924a
open Go.RowKit

theorem info5 : (Try.prog.info? 5).map (fun i => (i.zero, i.size, i.bytes)) = some (some (.int .u8 0), 1, 1) := by kernel_rfl

/-- What a round of the copy does to the row. -/
theorem row_step {w : World} {N len k : Nat} {zs : List Int} (h : w.rowIs N 5 len (fun j => if j < k then .int .u8 (zs.getD j 0) else .int .u8 0)) :
    (w.setCell ⟨N, k, none⟩ (.int .u8 (zs.getD k 0))).rowIs N 5 len (fun j => if j < k + 1 then .int .u8 (zs.getD j 0) else .int .u8 0) := by
  refine (h.set k _).congr fun j hj => ?_
  by_cases e : j = k
  · subst e; simp
  · by_cases e2 : j < k
    · rw [if_neg e, if_pos e2, if_pos (by omega)]
    · rw [if_neg e, if_neg e2, if_neg (by omega)]

theorem nil22 (w : World) (a : Option Addr) (n c n' c' : Nat) : (binOp .eql 22 (.slice a n c) (.slice Option.none n' c')).run Try.prog w = .ok (.bool a.isNone) w :=
  Lib.run_eql_slice_nil w _ _ a n c n' c' Try.underlying22

theorem clone_nil (w : World) : Calls Try.prog 5 #[.slice Option.none 0 0] w fun e w' => e = .returned (.slice Option.none 0 0) ∧ w' = w := by
  have q22 := nil22
  go_enter Try.func5, Try.ntmps5
  go_wp2
  go_ret
  exact ⟨rfl, rfl⟩

set_option maxHeartbeats 400000 in
theorem clone_zero (a : Addr) (cap : Nat) (w : World) : Calls Try.prog 5 #[.slice (some a) 0 cap] w fun e w' => e = .returned (.slice (some ⟨w.heap.size, 0, Option.none⟩) 0 0) ∧ w'.heap.size = w.heap.size + 1 ∧ Below w.heap.size w w' := by
  have q22 := nil22
  have hmk : ∀ w, (Instr.makeSlice 22 (.int .i64 0) (.int .i64 0)).run Try.prog w = .ok (.slice (some ⟨w.heap.size, 0, Option.none⟩) 0 0) (w.alloc (.cells (madeCells #[.int .u8 0] 0) 5)) := run_make_row' (P := Try.prog) 22 5 (.int .u8 0) 1 Try.underlying22 info5 rfl .i64 .i64 0 (by omega) (by omega)
  go_enter Try.func5, Try.ntmps5
  go_wp2
  refine wp_loop_rounds 1 ?_
  rw [rounds_succ]
  go_wp2
  go_ret
  exact ⟨rfl, by simp, (Below.refl _ _).alloc (Nat.le_refl _) _⟩

set_option maxHeartbeats 400000 in
theorem clone_some (b off len cap : Nat) (zs : List Int) (w : World) (hl : len ≤ 1048576) (hb : b < w.heap.size) (hc : ∀ j, j < len → w.cell? ⟨b, off + j, Option.none⟩ = some (.int .u8 (zs.getD j 0))) :
    Calls Try.prog 5 #[.slice (some ⟨b, off, Option.none⟩) len cap] w fun e w' => e = .returned (.slice (some ⟨w.heap.size, 0, Option.none⟩) len len) ∧
      w'.rowIs w.heap.size 5 len (fun j => .int .u8 (zs.getD j 0)) ∧ w'.heap.size = w.heap.size + 1 ∧ Below w.heap.size w w' := by
  have q22 := nil22
  have hmk := run_make_row' (P := Try.prog) 22 5 (.int .u8 0) 1 Try.underlying22 info5 rfl .i64 .i64 len (by omega) (by omega)
  have H0 := World.rowIs_made w (.int .u8 0) len 5
  have HC : Hid (∀ j, j < len → w.cell? ⟨b, off + j, Option.none⟩ = some (.int .u8 (zs.getD j 0))) := hc
  clear hc
  go_enter Try.func5, Try.ntmps5
  go_wp2
  go_loopw [4] (fun i wr => ∃ k : Nat, k ≤ len ∧ i = .int .i64 k ∧ wr.rowIs w.heap.size 5 len (fun j => if j < k then .int .u8 (zs.getD j 0) else .int .u8 0) ∧ wr.heap.size = w.heap.size + 1 ∧ Below w.heap.size w wr) (fun i _ => len - (intOf i).toNat)
  case atStart => exact ⟨0, Nat.zero_le _, rfl, H0.congr (fun i _ => by simp), by simp, (Below.refl _ _).alloc (Nat.le_refl _) _⟩
  case round =>
    obtain ⟨k, hk, rfl, hrow, hsz, hbel⟩ := hrel
    by_cases hlt : k < len
    · have hcl : wr.cell? ⟨b, off + k, Option.none⟩ = some (.int .u8 (zs.getD k 0)) := (hbel.cell (by exact hb)).trans (HC.out k hlt)
      have hfr := hrow.frozen k
      have hcd := hrow.cell hlt
      have R := row_step hrow
      go_wp2
      go_roundw
      case rel => exact ⟨k + 1, by omega, by go_num, R, by simpa using hsz, hbel.setCell (Nat.le_refl _) _⟩
      case measure => simp [intOf]; omega
    · go_wp2
      go_ret
      exact ⟨rfl, hrow.congr (fun j hj => by rw [if_pos (by omega)]), hsz, hbel⟩

/-! ### zzBytes -/
theorem zz_yes (x : Int) (a : Option Addr) (len cap : Nat) (h : len ≤ 1048576) (w : World) : Calls Try.prog 4 #[.int .u8 x, .slice a len cap] w fun e w' => e = .returned (.bool true) ∧ w' = w := by
  have h1 : ¬ (1048576 : Int) < (len : Int) := by omega
  go_enter Try.func4, Try.ntmps4
  go_wp2
  go_ret
  exact ⟨rfl, rfl⟩
theorem zz_no (x : Int) (a : Option Addr) (len cap : Nat) (h : ¬ len ≤ 1048576) (w : World) : Calls Try.prog 4 #[.int .u8 x, .slice a len cap] w fun e w' => e = .returned (.bool false) ∧ w' = w := by
  have h1 : (1048576 : Int) < (len : Int) := by omega
  go_enter Try.func4, Try.ntmps4
  go_wp2
  go_ret
  exact ⟨rfl, rfl⟩

end Go.Proofs.Qxb6605924a
