/-
  THE WALK of FnEncryptedBodyIsAFreshCopyOfBody.
-/
import Derived.Test.Qxb6605924aBody
namespace Go.Proofs.Qxb6605924a
open Go.RowKit

theorem cellNew {w1 : World} {K : Nat} (h : w1.heap.size = K) (u v : Value) (t : TypeId) : (w1.alloc (.cells #[u, v] t)).cell? ⟨K, 1, Option.none⟩ = some v := by
  subst h; simp

/-- Too long: true at once. -/
theorem law_long (x : Int) (a : Option Addr) (len cap : Nat) (h : ¬ len ≤ 1048576) (w : World) : Calls Try.prog 3 #[.int .u8 x, .slice a len cap] w fun e w' => e = .returned (.bool true) ∧ Below w.heap.size w w' := by
  go_enter Try.func3, Try.ntmps3
  go_wp2_with fail
  refine (zz_no x a len cap h _).mono ?_
  rintro e w' ⟨rfl, rfl⟩
  go_wp2_with fail
  go_ret
  exact ⟨rfl, Below.refl _ _⟩

set_option maxHeartbeats 400000 in
theorem law_nil (x : Int) (w : World) : Calls Try.prog 3 #[.int .u8 x, .slice Option.none 0 0] w fun e w' => e = .returned (.bool true) ∧ Below w.heap.size w w' := by
  go_enter Try.func3, Try.ntmps3
  go_wp2_with fail
  refine (zz_yes x Option.none 0 0 (by omega) _).mono ?_
  rintro e w' ⟨rfl, rfl⟩
  go_wp2_with fail
  refine (clone_nil _).mono ?_
  rintro e w' ⟨rfl, rfl⟩
  go_wp2_with fail
  refine (zzBody_empty _ 0 Option.none _ (by simp)).mono ?_
  rintro e w1 ⟨rfl, hb⟩
  go_wp2_with fail
  refine wp_loop_rounds 1 ?_
  rw [rounds_succ]
  go_wp2_with fail
  go_ret
  exact ⟨rfl, ((Below.refl _ _).alloc (Nat.le_refl _) _).trans (hb.mono (by simp))⟩

set_option maxHeartbeats 400000 in
theorem law_zero (x : Int) (a : Addr) (cap : Nat) (w : World) : Calls Try.prog 3 #[.int .u8 x, .slice (some a) 0 cap] w fun e w' => e = .returned (.bool true) ∧ Below w.heap.size w w' := by
  go_enter Try.func3, Try.ntmps3
  go_wp2_with fail
  refine (zz_yes x (some a) 0 cap (by omega) _).mono ?_
  rintro e w' ⟨rfl, rfl⟩
  go_wp2_with fail
  refine (clone_zero a cap _).mono ?_
  rintro e w1 ⟨rfl, hsz, hbel⟩
  go_wp2_with fail
  refine (zzBody_empty _ 0 _ _ (cellNew hsz _ _ _)).mono ?_
  rintro e w2 ⟨rfl, hb⟩
  go_wp2_with fail
  refine wp_loop_rounds 1 ?_
  rw [rounds_succ]
  go_wp2_with fail
  go_ret
  exact ⟨rfl, (hbel.alloc (by omega) _).trans (hb.mono (by simp; omega))⟩


theorem xor_all : ∀ n : Fin 256, (((n.val : Nat) : Int) == bits BinOp.xor .u8 ((n.val : Nat) : Int) 255) = false := by decide +kernel
theorem xor_ne (z : Int) (h0 : 0 ≤ z) (h1 : z ≤ 255) : (z == bits BinOp.xor .u8 z 255) = false := by
  obtain ⟨n, rfl⟩ := Int.eq_ofNat_of_zero_le h0
  exact xor_all ⟨n, by omega⟩

set_option maxHeartbeats 400000 in
theorem law_some (x : Int) (b off len cap : Nat) (zs : List Int) (w : World) (hl0 : 0 < len) (hl : len ≤ 1048576) (hb : b < w.heap.size) (hc : ∀ j, j < len → w.cell? ⟨b, off + j, Option.none⟩ = some (.int .u8 (zs.getD j 0))) (hz : 0 ≤ zs.getD 0 0 ∧ zs.getD 0 0 ≤ 255) :
    Calls Try.prog 3 #[.int .u8 x, .slice (some ⟨b, off, Option.none⟩) len cap] w fun e w' => e = .returned (.bool true) ∧ Below w.heap.size w w' := by
  have HC : Hid (∀ j, j < len → w.cell? ⟨b, off + j, Option.none⟩ = some (.int .u8 (zs.getD j 0))) := hc
  clear hc
  go_enter Try.func3, Try.ntmps3
  go_wp2_with fail
  refine (zz_yes x _ len cap hl _).mono ?_
  rintro e w' ⟨rfl, rfl⟩
  go_wp2_with fail
  refine (clone_some b off len cap zs _ hl hb HC.out).mono ?_
  rintro e w1 ⟨rfl, hrow, hsz, hbel⟩
  go_wp2_with fail
  refine (zzBody_some _ _ len len zs _ hl0 hl (cellNew hsz _ _ _) (hrow.alloc _)).mono ?_
  rintro e w2 ⟨⟨c, rfl⟩, h2, h3, h4, h5⟩
  simp only [World.size_alloc, hsz] at h2 h3 h4 h5
  have cBody : Hid (∀ j, j < len → w2.cell? ⟨w'.heap.size, j, Option.none⟩ = some (.int .u8 (zs.getD j 0))) := fun j hj => (h4.cell (by simp; omega)).trans ((hrow.alloc _).cell hj)
  have cBox : w2.cell? ⟨w'.heap.size + 1, 1, Option.none⟩ = some (.slice (some ⟨w'.heap.size, 0, Option.none⟩) len len) := (h4.cell (by simp)).trans (cellNew hsz _ _ _)
  have cOut : Hid (∀ j, j < len → w2.cell? ⟨w'.heap.size + 1 + 1, j, Option.none⟩ = some (.int .u8 (zs.getD j 0))) := h2
  have fOut := h3 0
  have HB : Hid (Below w'.heap.size w' w2) := (hbel.alloc (by omega) _).trans (h4.mono (by omega))
  clear h2 h3 h4 hrow hbel HC hb
  go_wp2_with fail
  go_loopw [7] (fun i wr => ∃ k : Nat, k ≤ len ∧ i = .int .i64 k ∧ ∃ n, wr = w2.drewN n) (fun i _ => len - (intOf i).toNat)
  case atStart => exact ⟨0, Nat.zero_le _, rfl, 0, rfl⟩
  case round =>
    obtain ⟨k, hk, rfl, n, hw⟩ := hrel
    subst hw
    by_cases hlt : k < len
    · have c1 := cBody.out k hlt
      have c2 := cOut.out k hlt
      have hlt' : (k : Int) < (len : Int) := by omega
      go_wp2_with fail
      go_region
      all_goals go_wp2_with fail
      go_roundw
      case rel => exact ⟨k + 1, by omega, by go_num, n + 1, rfl⟩
      case measure => simp [intOf]; omega
    · have c1 := cBody.out 0 hl0
      have c2 := cOut.out 0 hl0
      have hx : (zs[0]?.getD 0 == bits BinOp.xor .u8 (zs[0]?.getD 0) 255) = false := by
        have := xor_ne (zs.getD 0 0) hz.1 hz.2
        simpa using this
      go_wp2_with fail
      go_region
      all_goals go_wp2_with fail
      go_ret
      exact ⟨rfl, below_drewN ((below_drewN HB.out _).setCell (by simp; omega) _) 1⟩

end Go.Proofs.Qxb6605924a
