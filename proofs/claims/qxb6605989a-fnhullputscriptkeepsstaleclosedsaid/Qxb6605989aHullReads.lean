/-
  THE WALKS of the hull laws' reading functions: onPath, staleClosed, equalBools, hullTooBig, zzBytes, hullStateOK.
-/
import Derived.Test.Qxb6605989aTree
import Derived.Test.Qxb6605989aRowO
import Derived.BigQuiet
import Derived.Deep.QuietTactic
namespace Go.Proofs.Qxb6605989a
open Go.RowKit

/-- It returns a bool that says whether p. -/
def RetIf (p : Prop) (e : Ending) : Prop := ∃ r : Bool, e = .returned (.bool r) ∧ (r = true ↔ p)
theorem retIf_mk {p : Prop} {e : Ending} (r : Bool) (h : e = .returned (.bool r)) (h2 : r = true ↔ p) : RetIf p e := ⟨r, h, h2⟩

theorem retb {a b : Bool} (h : a = b) : Ending.returned (.bool a) = .returned (.bool b) := by rw [h]

/-! ### onPath -/
set_option maxHeartbeats 400000 in
theorem onPath_any (leaf k : Nat) (hk : 1 ≤ k) (hl : leaf ≤ 1000000) (hk' : k ≤ 1000000) (w : World) :
    Calls Try.prog 37 #[.int .i64 leaf, .int .i64 k] w fun e w' => RetIf (Anc leaf k) e ∧ w' = w := by
  go_enter Try.func37, Try.ntmps37
  go_wp2
  go_loop [0] (fun t => ∃ l : Nat, l ≤ leaf ∧ t = .int .i64 l ∧ Hid (Anc l k ↔ Anc leaf k)) (fun t => (intOf t).toNat)
  case atStart => exact ⟨leaf, Nat.le_refl _, rfl, Iff.rfl⟩
  case round =>
    obtain ⟨l, hll, rfl, HI⟩ := hrel
    by_cases hlt : k < l
    · have hlt' : (k : Int) < (l : Int) := by omega
      go_wp2
      go_round
      case rel =>
        refine ⟨l / 2, by omega, by go_num, ?_⟩
        have h1 := anc_step l k
        exact ⟨fun h => HI.out.1 (h1.2 (.inr h)), fun h => (h1.1 (HI.out.2 h)).elim (fun e => by omega) id⟩
      case measure => simp [intOf]; omega
    · have hlt' : ¬ (k : Int) < (l : Int) := by omega
      go_wp2
      go_ret
      refine ⟨retIf_mk ((l : Int) == (k : Int)) rfl ?_, rfl⟩
      rw [← HI.out]
      constructor
      · intro h
        have : l = k := by simp at h; omega
        subst this; exact anc_self _
      · intro h
        have := anc_le h
        simp; omega

/-! ### staleClosed -/
set_option maxHeartbeats 400000 in
theorem closed_any (b off m cap : Nat) (St : Nat → Bool) (w : World) (hm : m ≤ 131072) (hc : ∀ j, j < m → w.cell? ⟨b, off + j, Option.none⟩ = some (.bool (St j))) :
    Calls Try.prog 26 #[.slice (some ⟨b, off, Option.none⟩) m cap] w fun e w' => RetIf (Closed St m) e ∧ w' = w := by
  have HC : Hid (∀ j, j < m → w.cell? ⟨b, off + j, Option.none⟩ = some (.bool (St j))) := hc
  clear hc
  go_enter Try.func26, Try.ntmps26
  go_wp2
  go_loop [3] (fun t => ∃ k : Nat, 2 ≤ k ∧ (k ≤ m ∨ k = 2) ∧ t = .int .i64 k ∧ Hid (∀ j, 2 ≤ j → j < k → j < m → St j = true → St (j / 2) = true)) (fun t => m - (intOf t).toNat)
  case atStart => exact ⟨2, Nat.le_refl _, .inr rfl, rfl, fun j h1 h2 => by omega⟩
  case round =>
    obtain ⟨k, hk2, hk, rfl, HI⟩ := hrel
    by_cases hlt : k < m
    · have ck := HC.out k hlt
      have ch := HC.out (k / 2) (by omega)
      have hlt' : (k : Int) < (m : Int) := by omega
      have hlh : (k : Int) / 2 < (m : Int) := by omega
      cases e1 : St k
      · rw [e1] at ck
        go_wp2
        go_round
        case rel =>
          refine ⟨k + 1, by omega, .inl (by omega), by go_num, fun j h1 h2 h3 h4 => ?_⟩
          by_cases e : j = k
          · subst e; rw [e1] at h4; cases h4
          · exact HI.out j h1 (by omega) h3 h4
        case measure => simp [intOf]; omega
      · cases e2 : St (k / 2)
        · rw [e1] at ck
          rw [e2] at ch
          go_wp2
          go_ret
          refine ⟨retIf_mk false rfl ⟨fun h => (by cases h), fun h => ?_⟩, rfl⟩
          have := h k hk2 hlt e1
          rw [e2] at this; cases this
        · rw [e1] at ck
          rw [e2] at ch
          go_wp2
          go_round
          case rel =>
            refine ⟨k + 1, by omega, .inl (by omega), by go_num, fun j h1 h2 h3 h4 => ?_⟩
            by_cases e : j = k
            · subst e; exact e2
            · exact HI.out j h1 (by omega) h3 h4
          case measure => simp [intOf]; omega
    · have hlt' : ¬ (k : Int) < (m : Int) := by omega
      go_wp2
      go_ret
      exact ⟨retIf_mk true rfl ⟨fun _ j h1 h2 => HI.out j h1 (by omega) h2, fun _ => rfl⟩, rfl⟩

/-! ### equalBools over two rows that are the same -/
set_option maxHeartbeats 400000 in
theorem equal_same (b1 b2 n : Nat) (T T' : Nat → Bool) (w : World) (hn : n ≤ 131072) (hc1 : ∀ j, j < n → w.cell? ⟨b1, j, Option.none⟩ = some (.bool (T j))) (hc2 : ∀ j, j < n → w.cell? ⟨b2, j, Option.none⟩ = some (.bool (T' j))) (he : ∀ j, j < n → T j = T' j) :
    Calls Try.prog 24 #[.slice (some ⟨b1, 0, Option.none⟩) n n, .slice (some ⟨b2, 0, Option.none⟩) n n] w fun e w' => e = .returned (.bool true) ∧ ∃ k, w' = w.drewN k := by
  have H1 : Hid (∀ j, j < n → w.cell? ⟨b1, j, Option.none⟩ = some (.bool (T j))) := hc1
  have H2 : Hid (∀ j, j < n → w.cell? ⟨b2, j, Option.none⟩ = some (.bool (T j))) := fun j hj => by rw [he j hj]; exact hc2 j hj
  clear hc1 hc2 he
  go_enter Try.func24, Try.ntmps24
  go_wp2
  go_loopw [5] (fun t wr => ∃ k : Nat, k ≤ n ∧ t = .int .i64 k ∧ ∃ q, wr = w.drewN q) (fun t _ => n - (intOf t).toNat)
  case atStart => exact ⟨0, Nat.zero_le _, rfl, 0, rfl⟩
  case round =>
    obtain ⟨k, hk, rfl, q, hw⟩ := hrel
    subst hw
    by_cases hlt : k < n
    · have c1 := H1.out k hlt
      have c2 := H2.out k hlt
      have hlt' : (k : Int) < (n : Int) := by omega
      go_wp2
      go_region
      all_goals go_wp2
      go_roundw
      case rel => exact ⟨k + 1, by omega, by go_num, q + 1, rfl⟩
      case measure => simp [intOf]; omega
    · have hlt' : ¬ (k : Int) < (n : Int) := by omega
      go_wp2
      go_ret
      exact ⟨rfl, q, rfl⟩

end Go.Proofs.Qxb6605989a
