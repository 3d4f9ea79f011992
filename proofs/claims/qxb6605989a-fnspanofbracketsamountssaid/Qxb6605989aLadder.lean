/-
  THE WALK of ladderConsistent: where it says true the ladder is laid out as documented.
-/
import Derived.Test.Qxb6605989aStep
namespace Go.Proofs.Qxb6605989a
open Go.RowKit

/-- A ladder of at least one amount, as ladderConsistent finds it. -/
def Lad (A : Nat → Int) (n : Nat) (S : Nat → Int) (m : Nat) (sh : Int) : Prop :=
  (∀ i, i + 1 < n → A i < A (i + 1)) ∧ 2 ≤ m ∧ stp (A (n - 1)) (A 0) sh < (m : Int) - 1 ∧
    ∀ j, j < m → ∃ d : Nat, S j = d ∧ d ≤ n ∧ (∀ i, i < d → stp (A i) (A 0) sh < (j : Int)) ∧ (d < n → (j : Int) ≤ stp (A d) (A 0) sh)

/-- What is known at the head of the loop over the starts: those before c are right; the amounts before d lie in steps before c. -/
def LadIn (A : Nat → Int) (n : Nat) (S : Nat → Int) (c d : Nat) (sh : Int) : Prop :=
  (∀ i, i < d → stp (A i) (A 0) sh < (c : Int)) ∧
    ∀ j, j < c → ∃ d : Nat, S j = d ∧ d ≤ n ∧ (∀ i, i < d → stp (A i) (A 0) sh < (j : Int)) ∧ (d < n → (j : Int) ≤ stp (A d) (A 0) sh)

theorem ladIn_inc {A : Nat → Int} {n : Nat} {S : Nat → Int} {c d : Nat} {sh : Int} (h : LadIn A n S c d sh) (hd : stp (A d) (A 0) sh < (c : Int)) : LadIn A n S c (d + 1) sh := by
  refine ⟨fun i hi => ?_, h.2⟩
  by_cases e : i < d
  · exact h.1 i e
  · obtain rfl : i = d := by omega
    exact hd
theorem ladIn_next {A : Nat → Int} {n : Nat} {S : Nat → Int} {c d : Nat} {sh : Int} (h : LadIn A n S c d sh) (hdn : d ≤ n) (hd : d < n → (c : Int) ≤ stp (A d) (A 0) sh) (hs : (S c != (d : Int)) = false) : LadIn A n S (c + 1) d sh := by
  refine ⟨fun i hi => ?_, fun j hj => ?_⟩
  · have := h.1 i hi
    omega
  · by_cases e : j < c
    · exact h.2 j e
    · obtain rfl : j = c := by omega
      exact ⟨d, by simpa using hs, hdn, h.1, hd⟩

/-- ladderStep behind q draws, its place an integer. -/
theorem step_dr (b off n cap : Nat) (i : Int) (A : Nat → Int) (sh : Int) (w : World) (q : Nat) (h0 : 0 ≤ i) (hi : i < n) (hsh : 0 ≤ sh) (hc : ∀ j, j < n → w.cell? ⟨b, off + j, Option.none⟩ = some (.int .i64 (A j))) :
    Calls Try.prog 35 #[.slice (some ⟨b, off, Option.none⟩) n cap, .int .i64 i, .int .u64 sh] (w.drewN q) fun e w' => e = .returned (.int .u64 (stp (A i.toNat) (A 0) sh)) ∧ ∃ k, w' = w.drewN k := by
  obtain ⟨m, rfl⟩ := Int.eq_ofNat_of_zero_le h0
  refine (step_any b off n cap m A sh (w.drewN q) (by omega) hsh hc).mono ?_
  rintro e w' ⟨rfl, k, rfl⟩
  exact ⟨rfl, q + k, by simp⟩

theorem cons_zero (a sa : Option Addr) (cap m scap : Nat) (sh : Int) (w : World) :
    Calls Try.prog 10 #[.slice a 0 cap, .slice sa m scap, .int .u64 sh] w fun e w' => e = .returned (.bool true) ∧ w' = w := by
  go_enter Try.func10, Try.ntmps10
  go_wp2
  go_ret
  exact ⟨rfl, rfl⟩

set_option maxHeartbeats 1000000 in
theorem cons_short (b off n cap : Nat) (sa : Option Addr) (m scap : Nat) (A : Nat → Int) (sh : Int) (w : World) (hn0 : 0 < n) (hn : n ≤ 65536) (hm2 : m < 2)
    (hc : ∀ j, j < n → w.cell? ⟨b, off + j, Option.none⟩ = some (.int .i64 (A j))) :
    Calls Try.prog 10 #[.slice (some ⟨b, off, Option.none⟩) n cap, .slice sa m scap, .int .u64 sh] w fun e w' => e = .returned (.bool false) ∧ ∃ k, w' = w.drewN k := by
  have HC : Hid (∀ j, j < n → w.cell? ⟨b, off + j, Option.none⟩ = some (.int .i64 (A j))) := hc
  clear hc
  have hz : ((n : Int) == 0) = false := by simp; omega
  go_enter Try.func10, Try.ntmps10
  go_wp2
  go_loopw [8] (fun i wr => ∃ k : Nat, 1 ≤ k ∧ k ≤ n ∧ i = .int .i64 k ∧ Hid (∀ i, i + 1 < k → A i < A (i + 1)) ∧ ∃ q, wr = w.drewN q) (fun i _ => n - (intOf i).toNat)
  case atStart => exact ⟨1, by omega, by omega, rfl, fun i hi => by omega, 0, rfl⟩
  case round =>
    obtain ⟨k, hk1, hk, rfl, HI, q, hw⟩ := hrel
    subst hw
    by_cases hlt : k < n
    · have ck := HC.out k hlt
      have ck1 := HC.out (k - 1) (by omega)
      have hlt' : (k : Int) < (n : Int) := by omega
      have hlt1 : (k : Int) - 1 < (n : Int) := by omega
      have hlt0 : 0 ≤ (k : Int) - 1 := by omega
      go_wp2
      go_region
      go_wp2
      · go_ret
        exact ⟨rfl, _, rfl⟩
      · have hx : A (k - 1) < A k := by assumption
        go_roundw
        case rel =>
          refine ⟨k + 1, by omega, by omega, by go_num, fun i hi => ?_, q + 1, rfl⟩
          by_cases e : i + 1 < k
          · exact HI.out i e
          · obtain rfl : i = k - 1 := by omega
            rw [show k - 1 + 1 = k from by omega]; exact hx
        case measure => simp [intOf]; omega
    · have hm2' : (m : Int) < 2 := by omega
      go_wp2_with fail
      go_ret
      exact ⟨rfl, _, rfl⟩

set_option maxHeartbeats 1000000 in
theorem cons_any (b off n cap sb so m scap : Nat) (A S : Nat → Int) (sh : Int) (w : World) (hn0 : 0 < n) (hn : n ≤ 65536) (hm : m ≤ 65536) (hm2 : 2 ≤ m) (hsh : 0 ≤ sh)
    (hc : ∀ j, j < n → w.cell? ⟨b, off + j, Option.none⟩ = some (.int .i64 (A j)))
    (hs : ∀ j, j < m → w.cell? ⟨sb, so + j, Option.none⟩ = some (.int .i32 (S j)) ∧ -2147483648 ≤ S j ∧ S j ≤ 2147483647) :
    Calls Try.prog 10 #[.slice (some ⟨b, off, Option.none⟩) n cap, .slice (some ⟨sb, so, Option.none⟩) m scap, .int .u64 sh] w fun e w' => (∃ r : Bool, e = .returned (.bool r) ∧ (r = true → Lad A n S m sh)) ∧ ∃ k, w' = w.drewN k := by
  have HC : Hid (∀ j, j < n → w.cell? ⟨b, off + j, Option.none⟩ = some (.int .i64 (A j))) := hc
  have HS : Hid (∀ j, j < m → w.cell? ⟨sb, so + j, Option.none⟩ = some (.int .i32 (S j)) ∧ -2147483648 ≤ S j ∧ S j ≤ 2147483647) := hs
  clear hc hs
  have hz : ((n : Int) == 0) = false := by simp; omega
  go_enter Try.func10, Try.ntmps10
  go_wp2
  go_loopw [8] (fun i wr => ∃ k : Nat, 1 ≤ k ∧ k ≤ n ∧ i = .int .i64 k ∧ Hid (∀ i, i + 1 < k → A i < A (i + 1)) ∧ ∃ q, wr = w.drewN q) (fun i _ => n - (intOf i).toNat)
  case atStart => exact ⟨1, by omega, by omega, rfl, fun i hi => by omega, 0, rfl⟩
  case round =>
    obtain ⟨k, hk1, hk, rfl, HI, q, hw⟩ := hrel
    subst hw
    by_cases hlt : k < n
    · have ck := HC.out k hlt
      have ck1 := HC.out (k - 1) (by omega)
      have hlt' : (k : Int) < (n : Int) := by omega
      have hlt1 : (k : Int) - 1 < (n : Int) := by omega
      have hlt0 : 0 ≤ (k : Int) - 1 := by omega
      go_wp2
      go_region
      go_wp2
      · go_ret
        exact ⟨⟨false, rfl, fun h => by cases h⟩, _, rfl⟩
      · have hx : A (k - 1) < A k := by assumption
        go_roundw
        case rel =>
          refine ⟨k + 1, by omega, by omega, by go_num, fun i hi => ?_, q + 1, rfl⟩
          by_cases e : i + 1 < k
          · exact HI.out i e
          · obtain rfl : i = k - 1 := by omega
            rw [show k - 1 + 1 = k from by omega]; exact hx
        case measure => simp [intOf]; omega
    · obtain rfl : k = n := by omega
      have hn1 : 0 ≤ (k : Int) - 1 := by omega
      have hn2 : (k : Int) - 1 < (k : Int) := by omega
      · have hm2' : 2 ≤ (m : Int) := by omega
        go_wp2_with fail
        refine (step_dr b off k cap ((k : Int) - 1) A sh w q hn1 hn2 hsh HC.out).mono ?_
        rintro e w' ⟨rfl, q1, rfl⟩
        go_wp2_with fail
        · go_ret
          exact ⟨⟨false, rfl, fun h => by cases h⟩, _, rfl⟩
        · have hlast : stp (A (k - 1)) (A 0) sh < (m : Int) - 1 := by assumption
          have HL : Hid (stp (A (k - 1)) (A 0) sh < (m : Int) - 1) := hlast
          clear hlast
          go_loopw [10, 11] (fun t j wr => ∃ d c : Nat, c ≤ m ∧ d ≤ k ∧ t = .int .i64 d ∧ j = .int .i64 c ∧ Hid (LadIn A k S c d sh) ∧ ∃ q, wr = w.drewN q) (fun _ j _ => m - (intOf j).toNat)
          case atStart => exact ⟨0, 0, by omega, by omega, rfl, rfl, ⟨fun i hi => by omega, fun j hj => by omega⟩, _, rfl⟩
          case round =>
            obtain ⟨d, c, hcm, hdk, rfl, rfl, HP, q2, hw2⟩ := hrel
            subst hw2
            by_cases hcl : c < m
            · have hcl' : (c : Int) < (m : Int) := by omega
              obtain ⟨cs, sb1, sb2⟩ := HS.out c hcl
              go_wp2_with fail
              go_loopw [10] (fun t wr => ∃ d2 : Nat, d2 ≤ k ∧ t = .int .i64 d2 ∧ Hid (LadIn A k S c d2 sh) ∧ ∃ q, wr = w.drewN q) (fun t _ => k - (intOf t).toNat)
              case atStart => exact ⟨d, hdk, rfl, HP, q2, rfl⟩
              case round =>
                obtain ⟨d2, hd2, rfl, HP2, q3, hw3⟩ := hrel
                subst hw3
                by_cases hdl : d2 < k
                · have hdl' : (d2 : Int) < (k : Int) := by omega
                  go_wp2_with fail
                  refine (step_dr b off k cap d2 A sh w q3 (by omega) hdl' hsh HC.out).mono ?_
                  rintro e w' ⟨rfl, q4, rfl⟩
                  go_wp2_with fail
                  · have hx : stp (A d2) (A 0) sh < (c : Int) := by assumption
                    go_roundw
                    case rel => exact ⟨d2 + 1, by omega, by go_num, ladIn_inc HP2.out hx, q4, rfl⟩
                    case measure => simp [intOf]; omega
                  · go_ret
                    exact ⟨⟨false, rfl, fun h => by cases h⟩, _, rfl⟩
                  · have hx : (c : Int) ≤ stp (A d2) (A 0) sh := by assumption
                    have he : (S c != (d2 : Int)) = false := by assumption
                    go_roundw
                    case rel => exact ⟨d2, c + 1, by omega, hd2, rfl, by go_num, ladIn_next HP2.out hd2 (fun _ => hx) he, q4, rfl⟩
                    case measure => simp [intOf]; omega
                · go_wp2_with fail
                  · go_ret
                    exact ⟨⟨false, rfl, fun h => by cases h⟩, _, rfl⟩
                  · have he : (S c != (d2 : Int)) = false := by assumption
                    go_roundw
                    case rel => exact ⟨d2, c + 1, by omega, hd2, rfl, by go_num, ladIn_next HP2.out hd2 (fun h => absurd h hdl) he, q3, rfl⟩
                    case measure => simp [intOf]; omega
            · go_wp2_with fail
              go_ret
              obtain rfl : c = m := by omega
              exact ⟨⟨true, rfl, fun _ => ⟨HI.out, by omega, HL.out, HP.out.2⟩⟩, _, rfl⟩

end Go.Proofs.Qxb6605989a
