/-
  THE WALK of (*ladder).past.
-/
import Derived.Test.Qxb6605989aPlain
namespace Go.Proofs.Qxb6605989a
open Go.RowKit

/-- The ladder's box at block L, in the world w: its amounts, its starts, its shift. -/
def LadBox (w : World) (L : Nat) (am st : Value) (sh : Int) : Prop :=
  w.cell? ⟨L, 1, Option.none⟩ = some am ∧ w.cell? ⟨L, 3, Option.none⟩ = some st ∧ w.cell? ⟨L, 4, Option.none⟩ = some (.int .u64 sh)

theorem pastL_zero (L : Nat) (a : Option Addr) (cap : Nat) (st : Value) (sh x : Int) (w : World) (hb : LadBox w L (.slice a 0 cap) st sh) :
    Calls Try.prog 41 #[.pointer (some ⟨L, 0, Option.none⟩), .int .i64 x] w fun e w' => e = .returned (.int .i64 0) ∧ w' = w := by
  obtain ⟨h1, -, -⟩ := hb
  go_enter Try.func41, Try.ntmps41
  go_wp2
  go_ret
  exact ⟨rfl, rfl⟩

theorem pastL_before (L b n cap : Nat) (st : Value) (A : Nat → Int) (sh x : Int) (w : World) (hn : 0 < n) (hb : LadBox w L (.slice (some ⟨b, 0, Option.none⟩) n cap) st sh) (hc : w.cell? ⟨b, 0, Option.none⟩ = some (.int .i64 (A 0))) (hx : x < A 0) :
    Calls Try.prog 41 #[.pointer (some ⟨L, 0, Option.none⟩), .int .i64 x] w fun e w' => e = .returned (.int .i64 0) ∧ w' = w := by
  obtain ⟨h1, -, -⟩ := hb
  have hz : ((n : Int) == 0) = false := by simp; omega
  go_enter Try.func41, Try.ntmps41
  go_wp2
  go_ret
  exact ⟨rfl, rfl⟩

set_option maxHeartbeats 400000 in
theorem pastL_all (L b n cap : Nat) (sa : Option Addr) (m scap : Nat) (A : Nat → Int) (sh x : Int) (s : Nat) (w : World) (hn : 0 < n) (hm : 2 ≤ m) (hm' : m ≤ 65536) (hsh : 0 ≤ sh)
    (hb : LadBox w L (.slice (some ⟨b, 0, Option.none⟩) n cap) (.slice sa m scap) sh) (hc : w.cell? ⟨b, 0, Option.none⟩ = some (.int .i64 (A 0))) (hx : ¬ x < A 0)
    (hs : stp x (A 0) sh = (s : Int)) (hsm : (m : Int) - 1 ≤ (s : Int)) :
    Calls Try.prog 41 #[.pointer (some ⟨L, 0, Option.none⟩), .int .i64 x] w fun e w' => e = .returned (.int .i64 (n : Nat)) ∧ ∃ k, w' = w.drewN k := by
  obtain ⟨h1, h3, h4⟩ := hb
  have HS : Hid (stp x (A 0) sh = (s : Int)) := hs
  clear hs
  have hz : ((n : Int) == 0) = false := by simp; omega
  go_enter Try.func41, Try.ntmps41
  go_wp2
  go_quiet (fail)
  have e : IntKind.u64.wrap (IntKind.u64.wrap x - IntKind.u64.wrap (A 0)) / 2 ^ min sh.toNat 64 = (s : Int) := HS.out
  rw [e]
  clear e
  go_wp2
  go_ret
  exact ⟨rfl, _, rfl⟩

set_option maxHeartbeats 400000 in
theorem pastL_in (L b n sb m : Nat) (A : Nat → Int) (sh x : Int) (s d1 d2 : Nat) (w : World) (hn : 0 < n) (hn' : n ≤ 65536) (hm' : m ≤ 65536) (hsh : 0 ≤ sh)
    (hb : LadBox w L (.slice (some ⟨b, 0, Option.none⟩) n n) (.slice (some ⟨sb, 0, Option.none⟩) m m) sh) (hc : ∀ j, j < n → w.cell? ⟨b, j, Option.none⟩ = some (.int .i64 (A j))) (hx : ¬ x < A 0)
    (hs : stp x (A 0) sh = (s : Int)) (hsm : s + 1 < m) (hc1 : w.cell? ⟨sb, s, Option.none⟩ = some (.int .i32 (d1 : Int))) (hc2 : w.cell? ⟨sb, s + 1, Option.none⟩ = some (.int .i32 (d2 : Int)))
    (h12 : d1 ≤ d2) (h2n : d2 ≤ n) (hmono : ∀ i j, i ≤ j → j < n → A i ≤ A j) :
    Calls Try.prog 41 #[.pointer (some ⟨L, 0, Option.none⟩), .int .i64 x] w fun e w' => e = .returned (.int .i64 ((d1 + cnt (fun j => A (d1 + j)) (d2 - d1) x : Nat) : Int)) ∧ ∃ k, w' = w.drewN k := by
  obtain ⟨h1, h3, h4⟩ := hb
  have HS : Hid (stp x (A 0) sh = (s : Int)) := hs
  have HC : Hid (∀ j, j < n → w.cell? ⟨b, j, Option.none⟩ = some (.int .i64 (A j))) := hc
  have HM : Hid (∀ i j, i ≤ j → j < n → A i ≤ A j) := hmono
  have hc0 := hc 0 hn
  clear hs hc hmono
  have hz : ((n : Int) == 0) = false := by simp; omega
  have g1 : (s : Int) < (m : Int) := by omega
  have g2 : (s : Int) + 1 < (m : Int) := by omega
  have g3 : (s : Int) < (m : Int) - 1 := by omega
  have hq := cnt_le (fun j => A (d1 + j)) x (d2 - d1)
  have HP : Hid (∀ q : Nat, Calls Try.prog 43 #[.slice (some ⟨b, d1, Option.none⟩) (d2 - d1) (n - d1), .int .i64 x] (w.drewN q) fun e w' => e = .returned (.int .i64 (cnt (fun j => A (d1 + j)) (d2 - d1) x : Nat)) ∧ w' = w.drewN q) :=
    fun q => past_some b d1 (d2 - d1) (n - d1) (fun j => A (d1 + j)) x (w.drewN q) (by omega) (fun j hj => HC.out (d1 + j) (by omega)) (fun i j hij hj => HM.out _ _ (by omega) (by omega))
  by_cases hd : d1 < n
  · have hd' : 0 < n - d1 := by omega
    go_enter Try.func41, Try.ntmps41
    go_wp2
    go_quiet (fail)
    have e : IntKind.u64.wrap (IntKind.u64.wrap x - IntKind.u64.wrap (A 0)) / 2 ^ min sh.toNat 64 = (s : Int) := HS.out
    rw [e]
    clear e
    go_wp2
    go_quiet (fail)
    go_wp2_with fail
    refine (HP.out _).mono ?_
    rintro e w' ⟨rfl, rfl⟩
    go_wp2_with fail
    go_ret
    exact ⟨ret_int (by omega), _, rfl⟩
  · obtain rfl : d1 = n := by omega
    obtain rfl : d2 = d1 := by omega
    clear HP
    rw [Nat.sub_self]
    go_enter Try.func41, Try.ntmps41
    go_wp2
    go_quiet (fail)
    have e : IntKind.u64.wrap (IntKind.u64.wrap x - IntKind.u64.wrap (A 0)) / 2 ^ min sh.toNat 64 = (s : Int) := HS.out
    rw [e]
    clear e
    go_wp2
    go_quiet (fail)
    go_wp2_with fail
    refine (past_zero _ _ _ _).mono ?_
    rintro e w' ⟨rfl, rfl⟩
    go_wp2_with fail
    go_ret
    exact ⟨ret_int (by simp [cnt]), _, rfl⟩

/-- THE CONTRACT: the place past x, behind q draws. -/
theorem pastL_any (L b n sb m : Nat) (A S : Nat → Int) (sh x : Int) (w : World) (q : Nat) (hn : 0 < n) (hn' : n ≤ 65536) (hm' : m ≤ 65536) (hsh : 0 ≤ sh)
    (hb : LadBox w L (.slice (some ⟨b, 0, Option.none⟩) n n) (.slice (some ⟨sb, 0, Option.none⟩) m m) sh) (hc : ∀ j, j < n → w.cell? ⟨b, j, Option.none⟩ = some (.int .i64 (A j))) (hs : ∀ j, j < m → w.cell? ⟨sb, j, Option.none⟩ = some (.int .i32 (S j)))
    (hA : ∀ i, i < n → I64 (A i)) (hx : I64 x) (hL : Lad A n S m sh) :
    Calls Try.prog 41 #[.pointer (some ⟨L, 0, Option.none⟩), .int .i64 x] (w.drewN q) fun e w' => e = .returned (.int .i64 (cnt A n x : Nat)) ∧ ∃ k, w' = w.drewN k := by
  have fin : ∀ {v : Int} {Q : Ending → World → Prop}, v = (cnt A n x : Nat) → (∀ e w', Q e w' → e = .returned (.int .i64 v) ∧ ∃ k, w' = (w.drewN q).drewN k) → ∀ e w', Q e w' → e = .returned (.int .i64 (cnt A n x : Nat)) ∧ ∃ k, w' = w.drewN k := by
    intro v Q hv hQ e w' h
    obtain ⟨rfl, k, rfl⟩ := hQ e w' h
    exact ⟨ret_int hv, q + k, by simp⟩
  by_cases h0 : x < A 0
  · refine (pastL_before L b n n _ A sh x (w.drewN q) hn hb (hc 0 hn) h0).mono ?_
    exact fin (v := 0) (by rw [lad_before_all hL h0]; rfl) (fun e w' ⟨h1, h2⟩ => ⟨h1, 0, h2⟩)
  have hnn := stp_nonneg x (A 0) sh hx (hA 0 hn) (by omega)
  obtain ⟨s, hs'⟩ := Int.eq_ofNat_of_zero_le hnn
  by_cases hsm : s + 1 < m
  · obtain ⟨d1, d2, e1, e2, h12, h2n, he⟩ := lad_in hA hx hn hL (by omega) hs' hsm
    have c1 := hs s (by omega)
    have c2 := hs (s + 1) hsm
    rw [e1] at c1
    rw [e2] at c2
    refine (pastL_in L b n sb m A sh x s d1 d2 (w.drewN q) hn hn' hm' hsh hb hc h0 hs' hsm c1 c2 h12 h2n (mono_of A n hL.1)).mono ?_
    exact fin (by rw [he]) (fun e w' h => h)
  · refine (pastL_all L b n n _ m m A sh x s (w.drewN q) hn hL.2.1 hm' hsh hb (hc 0 hn) h0 hs' (by omega)).mono ?_
    exact fin (by rw [lad_past_all hA hx hn hL (by omega) (by omega)]) (fun e w' h => h)

end Go.Proofs.Qxb6605989a
