/-
  THE WALKS of hullTooBig, zzBytes of the two hull laws, hullStateOK.
-/
import Derived.Test.Qxb6605989aHullReads
namespace Go.Proofs.Qxb6605989a
open Go.RowKit

/-! ### hullTooBig -/
theorem big_no (a1 a2 a3 : Option Addr) (n c1 an c2 m c3 : Nat) (w : World) (h1 : n ≤ 65536) (h2 : an ≤ 65536) (h3 : m ≤ 131072) :
    Calls Try.prog 18 #[.slice a1 n c1, .slice a2 an c2, .slice a3 m c3] w fun e w' => e = .returned (.bool false) ∧ w' = w := by
  have g : ¬ (1048576 : Int) < (n : Int) + 8 * (an : Int) + (m : Int) := by omega
  go_enter Try.func18, Try.ntmps18
  go_wp2
  go_ret
  exact ⟨rfl, rfl⟩
set_option maxHeartbeats 400000 in
theorem big_yes (a1 a2 a3 : Option Addr) (n c1 an c2 m c3 : Nat) (w : World) (h : ¬ (n ≤ 65536 ∧ an ≤ 65536 ∧ m ≤ 131072)) :
    Calls Try.prog 18 #[.slice a1 n c1, .slice a2 an c2, .slice a3 m c3] w fun e w' => e = .returned (.bool true) ∧ w' = w := by
  by_cases h1 : n ≤ 65536
  · have g1 : ¬ (65536 : Int) < (n : Int) := by omega
    by_cases h2 : an ≤ 65536
    · have g2 : ¬ (65536 : Int) < (an : Int) := by omega
      have g3 : (131072 : Int) < (m : Int) := by omega
      go_enter Try.func18, Try.ntmps18
      go_wp2
      go_ret
      exact ⟨rfl, rfl⟩
    · have g2 : (65536 : Int) < (an : Int) := by omega
      go_enter Try.func18, Try.ntmps18
      go_wp2
      go_ret
      exact ⟨rfl, rfl⟩
  · have g1 : (65536 : Int) < (n : Int) := by omega
    go_enter Try.func18, Try.ntmps18
    go_wp2
    go_ret
    exact ⟨rfl, rfl⟩

/-! ### zzBytes -/
set_option maxHeartbeats 400000 in
theorem zz17_any (a1 a2 a3 : Option Addr) (n c1 an c2 m c3 : Nat) (lv i : Int) (on : Bool) (w : World) :
    Calls Try.prog 17 #[.slice a1 n c1, .slice a2 an c2, .int .i64 lv, .slice a3 m c3, .int .i64 i, .bool on] w fun e w' => (∃ r : Bool, e = .returned (.bool r)) ∧ w' = w := by
  go_enter Try.func17, Try.ntmps17
  go_wp2
  all_goals
    go_ret
    exact ⟨⟨_, rfl⟩, rfl⟩
set_option maxHeartbeats 400000 in
theorem zz17_yes (a1 a2 a3 : Option Addr) (n c1 an c2 m c3 : Nat) (lv i : Int) (on : Bool) (w : World) (h1 : n ≤ 65536) (h2 : an ≤ 65536) (h3 : m ≤ 131072) :
    Calls Try.prog 17 #[.slice a1 n c1, .slice a2 an c2, .int .i64 lv, .slice a3 m c3, .int .i64 i, .bool on] w fun e w' => e = .returned (.bool true) ∧ w' = w := by
  go_enter Try.func17, Try.ntmps17
  go_wp2
  go_ret
  exact ⟨rfl, rfl⟩
set_option maxHeartbeats 400000 in
theorem zz25_any (a1 a2 a3 : Option Addr) (n c1 an c2 m c3 : Nat) (lv i j : Int) (on on2 : Bool) (w : World) :
    Calls Try.prog 25 #[.slice a1 n c1, .slice a2 an c2, .int .i64 lv, .slice a3 m c3, .int .i64 i, .bool on, .int .i64 j, .bool on2] w fun e w' => (∃ r : Bool, e = .returned (.bool r)) ∧ w' = w := by
  go_enter Try.func25, Try.ntmps25
  go_wp2
  all_goals
    go_ret
    exact ⟨⟨_, rfl⟩, rfl⟩
set_option maxHeartbeats 400000 in
theorem zz25_yes (a1 a2 a3 : Option Addr) (n c1 an c2 m c3 : Nat) (lv i j : Int) (on on2 : Bool) (w : World) (h1 : n ≤ 65536) (h2 : an ≤ 65536) (h3 : m ≤ 131072) :
    Calls Try.prog 25 #[.slice a1 n c1, .slice a2 an c2, .int .i64 lv, .slice a3 m c3, .int .i64 i, .bool on, .int .i64 j, .bool on2] w fun e w' => e = .returned (.bool true) ∧ w' = w := by
  go_enter Try.func25, Try.ntmps25
  go_wp2
  go_ret
  exact ⟨rfl, rfl⟩

/-! ### hullStateOK -/
/-- The tree's shape fits. -/
def Fits (n an m : Nat) (lv : Int) : Prop := 1 ≤ lv ∧ lv ≤ 65536 ∧ (m : Int) = 2 * lv ∧ an = n

set_option maxHeartbeats 400000 in
theorem ok_bad (a1 a2 a3 : Option Addr) (n c1 an c2 m c3 : Nat) (lv : Int) (w : World) (h : ¬ Fits n an m lv) :
    Calls Try.prog 19 #[.slice a1 n c1, .slice a2 an c2, .int .i64 lv, .slice a3 m c3] w fun e w' => e = .returned (.bool false) ∧ w' = w := by
  unfold Fits at h
  by_cases h1 : lv < 1
  · go_enter Try.func19, Try.ntmps19
    go_wp2
    go_ret
    exact ⟨rfl, rfl⟩
  · by_cases h2 : 65536 < lv
    · go_enter Try.func19, Try.ntmps19
      go_wp2
      go_ret
      exact ⟨rfl, rfl⟩
    · have g1 : 1 ≤ lv := by omega
      have g2 : lv ≤ 65536 := by omega
      by_cases h3 : (m : Int) = 2 * lv
      · have g3 : ((m : Int) != 2 * lv) = false := by simpa using h3
        have g4 : ((an : Int) != (n : Int)) = true := by
          have : an ≠ n := fun e => h ⟨g1, g2, h3, e⟩
          simp; omega
        clear h3 h
        go_enter Try.func19, Try.ntmps19
        go_wp2
        go_ret
        exact ⟨rfl, rfl⟩
      · have g3 : ((m : Int) != 2 * lv) = true := by simpa using h3
        clear h3 h
        go_enter Try.func19, Try.ntmps19
        go_wp2
        go_ret
        exact ⟨rfl, rfl⟩

set_option maxHeartbeats 400000 in
theorem ok_zero (a1 a2 : Option Addr) (c1 c2 sb so m c3 : Nat) (St : Nat → Bool) (lv : Nat) (w : World) (h1 : 1 ≤ lv) (h2 : lv ≤ 65536) (hm : m = 2 * lv)
    (hc : ∀ j, j < m → w.cell? ⟨sb, so + j, Option.none⟩ = some (.bool (St j))) :
    Calls Try.prog 19 #[.slice a1 0 c1, .slice a2 0 c2, .int .i64 lv, .slice (some ⟨sb, so, Option.none⟩) m c3] w fun e w' => (∃ r : Bool, e = .returned (.bool r)) ∧ w' = w := by
  have HC : Hid (∀ j, j < m → w.cell? ⟨sb, so + j, Option.none⟩ = some (.bool (St j))) := hc
  clear hc
  have hmI : (m : Int) = 2 * (lv : Int) := by omega
  have hm1 : ((m : Int) != 2 * (lv : Int)) = false := by simpa using hmI
  have hmm : m ≤ 131072 := by omega
  clear hmI hm
  go_enter Try.func19, Try.ntmps19
  go_wp2_with fail
  refine wp_loop_rounds 1 ?_
  rw [rounds_succ]
  go_wp2_with fail
  refine (closed_any sb so m c3 St _ hmm HC.out).mono ?_
  rintro e w' ⟨⟨r, rfl, hr⟩, rfl⟩
  clear hr
  go_wp2_with fail
  go_ret
  exact ⟨⟨r, rfl⟩, rfl⟩

/-- What hullStateOK finds, over at least one point. -/
def StateOK (n : Nat) (A : Nat → Int) (lv m : Nat) (St : Nat → Bool) : Prop := (∀ p, p < n → 0 ≤ A p ∧ A p < 8 * (lv : Int)) ∧ Closed St m

set_option maxHeartbeats 400000 in
theorem ok_pos (a1 : Option Addr) (n c1 ab ao c2 sb so m c3 : Nat) (A : Nat → Int) (St : Nat → Bool) (lv : Nat) (w : World) (hn : n ≤ 65536) (h1 : 1 ≤ lv) (h2 : lv ≤ 65536) (hm : m = 2 * lv)
    (ha : ∀ j, j < n → w.cell? ⟨ab, ao + j, Option.none⟩ = some (.int .i64 (A j)))
    (hc : ∀ j, j < m → w.cell? ⟨sb, so + j, Option.none⟩ = some (.bool (St j))) :
    Calls Try.prog 19 #[.slice a1 n c1, .slice (some ⟨ab, ao, Option.none⟩) n c2, .int .i64 lv, .slice (some ⟨sb, so, Option.none⟩) m c3] w fun e w' => RetIf (StateOK n A lv m St) e ∧ w' = w := by
  have HC : Hid (∀ j, j < m → w.cell? ⟨sb, so + j, Option.none⟩ = some (.bool (St j))) := hc
  have HA : Hid (∀ j, j < n → w.cell? ⟨ab, ao + j, Option.none⟩ = some (.int .i64 (A j))) := ha
  clear hc ha
  have hmI : (m : Int) = 2 * (lv : Int) := by omega
  have hm1 : ((m : Int) != 2 * (lv : Int)) = false := by simpa using hmI
  have hmm : m ≤ 131072 := by omega
  clear hmI hm
  go_enter Try.func19, Try.ntmps19
  go_wp2_with fail
  go_loop [9] (fun t => ∃ k : Nat, k ≤ n ∧ t = .int .i64 k ∧ Hid (∀ p, p < k → 0 ≤ A p ∧ A p < 8 * (lv : Int))) (fun t => n - (intOf t).toNat)
  case atStart => exact ⟨0, Nat.zero_le _, rfl, fun p hp => by omega⟩
  case round =>
    obtain ⟨k, hk, rfl, HI⟩ := hrel
    by_cases hlt : k < n
    · have ck := HA.out k hlt
      have hlt' : (k : Int) < (n : Int) := by omega
      by_cases g1 : A k < 0
      · go_wp2_with fail
        go_ret
        exact ⟨retIf_mk false rfl ⟨fun h => (by cases h), fun h => by have := (h.1 k hlt).1; omega⟩, rfl⟩
      · by_cases g2 : 8 * (lv : Int) ≤ A k
        · go_wp2_with fail
          go_ret
          exact ⟨retIf_mk false rfl ⟨fun h => (by cases h), fun h => by have := (h.1 k hlt).2; omega⟩, rfl⟩
        · have g3 : 0 ≤ A k := by omega
          have g4 : A k < 8 * (lv : Int) := by omega
          go_wp2_with fail
          go_round
          case rel =>
            refine ⟨k + 1, by omega, by go_num, fun p hp => ?_⟩
            by_cases e : p = k
            · subst e; exact ⟨g3, g4⟩
            · exact HI.out p (by omega)
          case measure => simp [intOf]; omega
    · have hlt' : ¬ (k : Int) < (n : Int) := by omega
      go_wp2_with fail
      refine (closed_any sb so m c3 St _ hmm HC.out).mono ?_
      rintro e w' ⟨⟨r, rfl, hr⟩, rfl⟩
      have HR : Hid (r = true ↔ Closed St m) := hr
      clear hr
      go_wp2_with fail
      go_ret
      exact ⟨retIf_mk r rfl ⟨fun h => ⟨fun p hp => HI.out p (by omega), HR.out.1 h⟩, fun h => HR.out.2 h.2⟩, rfl⟩

end Go.Proofs.Qxb6605989a
