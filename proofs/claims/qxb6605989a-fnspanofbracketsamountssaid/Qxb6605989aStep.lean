/-
  THE WALKS of ladderStep, zzBytes, countAtMost, search.Past.
-/
import Derived.Test.Qxb6605989aRows
import Derived.WalkKit
import Derived.WalkSpells
import Derived.WalkLawsBesides
import Derived.BigQuiet
import Derived.Deep.QuietTactic
import Derived.Deep.OwnRows
import Derived.Laws.Shifts
namespace Go.Proofs.Qxb6605989a
open Go.RowKit

/-- The step that an amount lies in: the difference to the first as a uint64, shifted down. -/
def stp (a a0 sh : Int) : Int := IntKind.u64.wrap (IntKind.u64.wrap a - IntKind.u64.wrap a0) / 2 ^ min sh.toNat 64
theorem ret_int {k : IntKind} {a b : Int} (h : a = b) : Ending.returned (.int k a) = .returned (.int k b) := by rw [h]
theorem ret_bool {a b : Bool} (h : a = b) : Ending.returned (.bool a) = .returned (.bool b) := by rw [h]

set_option maxHeartbeats 400000 in
theorem step_any (b off n cap i : Nat) (A : Nat → Int) (sh : Int) (w : World) (hi : i < n) (hsh : 0 ≤ sh) (hc : ∀ j, j < n → w.cell? ⟨b, off + j, Option.none⟩ = some (.int .i64 (A j))) :
    Calls Try.prog 35 #[.slice (some ⟨b, off, Option.none⟩) n cap, .int .i64 i, .int .u64 sh] w fun e w' => e = .returned (.int .u64 (stp (A i) (A 0) sh)) ∧ ∃ k, w' = w.drewN k := by
  have c0 : w.cell? ⟨b, off, Option.none⟩ = some (.int .i64 (A 0)) := by simpa using hc 0 (by omega)
  have ci := hc i hi
  have h0 : 0 < n := by omega
  have h1 : (i : Int) < (n : Int) := by omega
  clear hc
  go_enter Try.func35, Try.ntmps35
  go_wp2
  go_quiet (fail)
  go_wp2
  go_ret
  exact ⟨ret_int (by simp [stp]), _, rfl⟩

/-! ### countAtMost -/
/-- How many of the first n amounts are at most x. -/
def cnt (A : Nat → Int) : Nat → Int → Nat
  | 0, _ => 0
  | n + 1, x => cnt A n x + if A n ≤ x then 1 else 0
theorem cnt_le (A : Nat → Int) (x : Int) : ∀ n, cnt A n x ≤ n
  | 0 => Nat.le_refl _
  | n + 1 => by have := cnt_le A x n; unfold cnt; split <;> omega

set_option maxHeartbeats 400000 in
theorem count_any (b off n cap : Nat) (A : Nat → Int) (x : Int) (w : World) (hn : n ≤ 65536) (hc : ∀ j, j < n → w.cell? ⟨b, off + j, Option.none⟩ = some (.int .i64 (A j))) :
    Calls Try.prog 14 #[.slice (some ⟨b, off, Option.none⟩) n cap, .int .i64 x] w fun e w' => e = .returned (.int .i64 (cnt A n x : Nat)) ∧ w' = w := by
  have HC : Hid (∀ j, j < n → w.cell? ⟨b, off + j, Option.none⟩ = some (.int .i64 (A j))) := hc
  clear hc
  go_enter Try.func14, Try.ntmps14
  go_wp2
  go_loop [5, 6] (fun c i => ∃ k : Nat, k ≤ n ∧ i = .int .i64 k ∧ c = .int .i64 (cnt A k x : Nat)) (fun _ i => n - (intOf i).toNat)
  case atStart => exact ⟨0, Nat.zero_le _, rfl, rfl⟩
  case round =>
    obtain ⟨k, hk, rfl, rfl⟩ := hrel
    have hle := cnt_le A x k
    by_cases hlt : k < n
    · have ck := HC.out k hlt
      have hlt' : (k : Int) < (n : Int) := by omega
      have HS : Hid (cnt A (k + 1) x = cnt A k x + if A k ≤ x then 1 else 0) := rfl
      go_wp2
      all_goals
        go_round
        case rel => exact ⟨k + 1, by omega, by go_num, by rw [HS.out]; first | (rw [if_pos ‹_›]; go_num) | (rw [if_neg (by omega)]; go_num)⟩
        case measure => simp [intOf]; omega
    · go_wp2
      go_ret
      obtain rfl : k = n := by omega
      exact ⟨rfl, rfl⟩

set_option maxHeartbeats 400000 in
theorem count_zero (a : Option Addr) (cap : Nat) (x : Int) (w : World) : Calls Try.prog 14 #[.slice a 0 cap, .int .i64 x] w fun e w' => e = .returned (.int .i64 0) ∧ w' = w := by
  go_enter Try.func14, Try.ntmps14
  go_wp2
  refine wp_loop_rounds 1 ?_
  rw [rounds_succ]
  go_wp2
  go_ret
  exact ⟨rfl, rfl⟩

/-! ### search.Past -/
theorem cnt_split (A : Nat → Int) (x : Int) (p : Nat) (h1 : ∀ i, i < p → A i ≤ x) : ∀ n, p ≤ n → (∀ i, p ≤ i → i < n → x < A i) → cnt A n x = p
  | 0, hp, _ => by simp [cnt]; omega
  | n + 1, hp, h2 => by
    unfold cnt
    by_cases e : p = n + 1
    · have := cnt_split A x n (fun i hi => h1 i (by omega)) n (Nat.le_refl _) (fun i a b => by omega)
      rw [this, if_pos (h1 n (by omega))]; omega
    · have h3 := h2 n (by omega) (by omega)
      rw [cnt_split A x p h1 n (by omega) (fun i a b => h2 i a (by omega)), if_neg (by omega)]; rfl

set_option maxHeartbeats 400000 in
theorem past_some (b off n cap : Nat) (A : Nat → Int) (x : Int) (w : World) (hn : n ≤ 65536) (hc : ∀ j, j < n → w.cell? ⟨b, off + j, Option.none⟩ = some (.int .i64 (A j))) (hs : ∀ i j, i ≤ j → j < n → A i ≤ A j) :
    Calls Try.prog 43 #[.slice (some ⟨b, off, Option.none⟩) n cap, .int .i64 x] w fun e w' => e = .returned (.int .i64 (cnt A n x : Nat)) ∧ w' = w := by
  have HC : Hid (∀ j, j < n → w.cell? ⟨b, off + j, Option.none⟩ = some (.int .i64 (A j))) := hc
  have HS : Hid (∀ i j, i ≤ j → j < n → A i ≤ A j) := hs
  clear hc hs
  go_enter Try.func43, Try.ntmps43
  go_wp2
  go_loop [5, 6] (fun l h => ∃ lo hi : Nat, lo ≤ hi ∧ hi ≤ n ∧ l = .int .i64 lo ∧ h = .int .i64 hi ∧ Hid ((∀ i, i < lo → A i ≤ x) ∧ ∀ i, hi ≤ i → i < n → x < A i)) (fun l h => (intOf h).toNat - (intOf l).toNat)
  case atStart => exact ⟨0, n, by omega, by omega, rfl, rfl, fun i hi => by omega, fun i a b => by omega⟩
  case round =>
    obtain ⟨lo, hi, hlh, hhn, rfl, rfl, HI⟩ := hrel
    by_cases hlt : lo < hi
    · have hmid : (lo + hi) / 2 < n := by omega
      have ck := HC.out ((lo + hi) / 2) hmid
      go_wp2
      · have hx : x < A ((lo + hi) / 2) := by assumption
        go_round
        case rel => exact ⟨lo, (lo + hi) / 2, by omega, by omega, rfl, by go_num, HI.out.1, fun i a b => by have := HS.out ((lo + hi) / 2) i a b; omega⟩
        case measure => simp [intOf]; omega
      · have hx : A ((lo + hi) / 2) ≤ x := by assumption
        go_round
        case rel => exact ⟨(lo + hi) / 2 + 1, hi, by omega, by omega, by go_num, rfl, fun i a => by have := HS.out i ((lo + hi) / 2) (by omega) hmid; omega, HI.out.2⟩
        case measure => simp [intOf]; omega
    · go_wp2
      go_ret
      obtain rfl : lo = hi := by omega
      exact ⟨ret_int (by rw [cnt_split A x lo HI.out.1 n hhn HI.out.2]), rfl⟩

set_option maxHeartbeats 400000 in
theorem past_zero (a : Option Addr) (cap : Nat) (x : Int) (w : World) : Calls Try.prog 43 #[.slice a 0 cap, .int .i64 x] w fun e w' => e = .returned (.int .i64 0) ∧ w' = w := by
  go_enter Try.func43, Try.ntmps43
  go_wp2
  refine wp_loop_rounds 1 ?_
  rw [rounds_succ]
  go_wp2
  go_ret
  exact ⟨rfl, rfl⟩

end Go.Proofs.Qxb6605989a
