/-
  THE WALK of FnSpanOfCountsLadderAmounts.
-/
import Derived.Test.Qxb6605989aSpan
import Derived.Test.Qxb6605989aRowO
namespace Go.Proofs.Qxb6605989a
open Go.RowKit

/-! ### zzBytes of the two laws over ladders -/
set_option maxHeartbeats 400000 in
theorem zz9_any (a s : Option Addr) (n cap m scap : Nat) (sh lo hi : Int) (w : World) :
    Calls Try.prog 9 #[.slice a n cap, .slice s m scap, .int .u64 sh, .int .i64 lo, .int .i64 hi] w fun e w' => (∃ r : Bool, e = .returned (.bool r)) ∧ w' = w := by
  go_enter Try.func9, Try.ntmps9
  go_wp2
  all_goals
    go_ret
    exact ⟨⟨_, rfl⟩, rfl⟩
set_option maxHeartbeats 400000 in
theorem zz9_yes (a s : Option Addr) (n cap m scap : Nat) (sh lo hi : Int) (w : World) (hn : n ≤ 65536) (hm : m ≤ 65536) :
    Calls Try.prog 9 #[.slice a n cap, .slice s m scap, .int .u64 sh, .int .i64 lo, .int .i64 hi] w fun e w' => e = .returned (.bool true) ∧ w' = w := by
  go_enter Try.func9, Try.ntmps9
  go_wp2
  all_goals
    go_ret
    exact ⟨rfl, rfl⟩

/-! ### The law, where it is idle -/
set_option maxHeartbeats 400000 in
theorem law3_big (a s : Option Addr) (n cap m scap : Nat) (sh lo hi : Int) (w : World) (h : ¬ (n ≤ 65536 ∧ m ≤ 65536 ∧ 8 * n + 4 * m ≤ 1048576)) :
    Calls Try.prog 3 #[.slice a n cap, .slice s m scap, .int .u64 sh, .int .i64 lo, .int .i64 hi] w fun e w' => e = .returned (.bool true) ∧ Below w.heap.size w w' := by
  by_cases h1 : n ≤ 65536
  · by_cases h2 : m ≤ 65536
    · omega
    · have h3 : (65536 : Int) < (m : Int) := by omega
      go_enter Try.func3, Try.ntmps3
      go_wp2_with fail
      refine (zz9_any a s n cap m scap sh lo hi _).mono ?_
      rintro e w' ⟨⟨r, rfl⟩, rfl⟩
      cases r
      all_goals
        go_wp2_with fail
        go_ret
        exact ⟨rfl, Below.refl _ _⟩
  · have h3 : (65536 : Int) < (n : Int) := by omega
    go_enter Try.func3, Try.ntmps3
    go_wp2_with fail
    refine (zz9_any a s n cap m scap sh lo hi _).mono ?_
    rintro e w' ⟨⟨r, rfl⟩, rfl⟩
    cases r
    all_goals
      go_wp2_with fail
      go_ret
      exact ⟨rfl, Below.refl _ _⟩

/-! ### No amount -/
set_option maxHeartbeats 400000 in
theorem law3_zero (a s : Option Addr) (cap m scap : Nat) (A S : Nat → Int) (sh lo hi : Int) (w : World) (hm : m ≤ 65536) (ha : RowO w a 0 cap (fun j => .int .i64 (A j))) (hs : RowO w s m scap (fun j => .int .i32 (S j))) (hlo : I64 lo) (hhi : I64 hi) :
    Calls Try.prog 3 #[.slice a 0 cap, .slice s m scap, .int .u64 sh, .int .i64 lo, .int .i64 hi] w fun e w' => e = .returned (.bool true) ∧ Below w.heap.size w w' := by
  have hm1 : ¬ (65536 : Int) < (m : Int) := by omega
  have hm2 : ¬ (1048576 : Int) < 4 * (m : Int) := by omega
  go_enter Try.func3, Try.ntmps3
  go_wp2_with fail
  refine (zz9_yes a s 0 cap m scap sh lo hi _ (by omega) hm).mono ?_
  rintro e w' ⟨rfl, rfl⟩
  go_wp2_with fail
  refine (cons_zero a s cap m scap sh _).mono ?_
  rintro e w' ⟨rfl, rfl⟩
  go_wp2_with fail
  refine (clone64_any a 0 cap A _ (by omega) ha).mono ?_
  rintro e w1 ⟨ra, rc, rfl, hb1, -⟩
  go_wp2_with fail
  refine (clone32_any s m scap S _ (by omega) (hs.later hb1)).mono ?_
  rintro e w2 ⟨rs, rsc, rfl, hb2, -⟩
  go_wp2_with fail
  refine (zzSpan_any ra rs 0 rc m rsc sh lo hi (fun _ => 0) _ hlo hhi (fun W _ hbox x W' hW' _ => ?_)).mono ?_
  · have hbox' : LadBox W' w2.heap.size (.slice ra 0 rc) (.slice rs m rsc) sh := by
      unfold LadBox World.cell?
      unfold LadBox World.cell? at hbox
      rw [hW']; exact hbox
    exact (pastL_zero _ ra rc _ sh x W' hbox').mono fun e w' ⟨h1, h2⟩ => ⟨h1, 0, h2⟩
  rintro e w3 ⟨rfl, hb3⟩
  go_wp2_with fail
  refine (count_zero ra rc lo _).mono ?_
  rintro e w' ⟨rfl, rfl⟩
  go_wp2_with fail
  refine (count_zero ra rc hi _).mono ?_
  rintro e w' ⟨rfl, rfl⟩
  go_wp2_with fail
  go_ret
  exact ⟨rfl, hb1.trans ((hb2.trans (hb3.mono hb2.size)).mono hb1.size)⟩

/-! ### Some amounts, too few starts -/
set_option maxHeartbeats 400000 in
theorem law3_short (a s : Option Addr) (n cap m scap : Nat) (A : Nat → Int) (sh lo hi : Int) (w : World) (hn0 : 0 < n) (hn : n ≤ 65536) (hm : m < 2) (ht : 8 * n + 4 * m ≤ 1048576) (ha : RowO w a n cap (fun j => .int .i64 (A j))) :
    Calls Try.prog 3 #[.slice a n cap, .slice s m scap, .int .u64 sh, .int .i64 lo, .int .i64 hi] w fun e w' => e = .returned (.bool true) ∧ Below w.heap.size w w' := by
  obtain ⟨b, off, rfl, hc⟩ := ha.pos hn0
  have HC : Hid (∀ j, j < n → w.cell? ⟨b, off + j, Option.none⟩ = some (.int .i64 (A j))) := hc
  clear hc ha
  have hm1 : ¬ (65536 : Int) < (m : Int) := by omega
  have hn1 : ¬ (65536 : Int) < (n : Int) := by omega
  have ht1 : ¬ (1048576 : Int) < 8 * (n : Int) + 4 * (m : Int) := by omega
  go_enter Try.func3, Try.ntmps3
  go_wp2_with fail
  refine (zz9_yes _ s n cap m scap sh lo hi _ hn (by omega)).mono ?_
  rintro e w' ⟨rfl, rfl⟩
  go_wp2_with fail
  refine (cons_short b off n cap s m scap A sh _ hn0 hn hm HC.out).mono ?_
  rintro e w1 ⟨rfl, k, rfl⟩
  go_wp2_with fail
  go_ret
  exact ⟨rfl, below_drewN (Below.refl _ _) k⟩

/-! ### Some amounts -/
theorem pastOf_lad {L b n sb m : Nat} {A S : Nat → Int} {sh : Int} {W0 : World} (hn : 0 < n) (hn' : n ≤ 65536) (hm' : m ≤ 65536) (hsh : 0 ≤ sh)
    (hb : LadBox W0 L (.slice (some ⟨b, 0, Option.none⟩) n n) (.slice (some ⟨sb, 0, Option.none⟩) m m) sh) (hc : ∀ j, j < n → W0.cell? ⟨b, j, Option.none⟩ = some (.int .i64 (A j))) (hs : ∀ j, j < m → W0.cell? ⟨sb, j, Option.none⟩ = some (.int .i32 (S j)))
    (hA : ∀ i, i < n → I64 (A i)) (hL : Lad A n S m sh) : PastOf W0 L (fun x => ((cnt A n x : Nat) : Int)) := by
  intro x W hW hx
  have hcell : ∀ p, W.cell? p = W0.cell? p := fun p => by unfold World.cell?; rw [hW]
  have := pastL_any L b n sb m A S sh x W 0 hn hn' hm' hsh (by unfold LadBox; simp only [hcell]; exact hb) (fun j hj => by rw [hcell]; exact hc j hj) (fun j hj => by rw [hcell]; exact hs j hj) hA hx hL
  exact this

set_option maxHeartbeats 1000000 in
theorem law3_pos (a s : Option Addr) (n cap m scap : Nat) (A S : Nat → Int) (sh lo hi : Int) (w : World) (hn0 : 0 < n) (hn : n ≤ 65536) (hm2 : 2 ≤ m) (hm : m ≤ 65536) (ht : 8 * n + 4 * m ≤ 1048576) (hsh : 0 ≤ sh)
    (ha : RowO w a n cap (fun j => .int .i64 (A j))) (hs : RowO w s m scap (fun j => .int .i32 (S j))) (hA : ∀ j, j < n → I64 (A j)) (hS : ∀ j, j < m → -2147483648 ≤ S j ∧ S j ≤ 2147483647) (hlo : I64 lo) (hhi : I64 hi) :
    Calls Try.prog 3 #[.slice a n cap, .slice s m scap, .int .u64 sh, .int .i64 lo, .int .i64 hi] w fun e w' => e = .returned (.bool true) ∧ Below w.heap.size w w' := by
  have HRa : Hid (RowO w a n cap (fun j => .int .i64 (A j))) := ha
  have HRs : Hid (RowO w s m scap (fun j => .int .i32 (S j))) := hs
  obtain ⟨b, off, rfl, hc⟩ := ha.pos hn0
  obtain ⟨sb, so, rfl, hsc⟩ := hs.pos (by omega)
  have HC : Hid (∀ j, j < n → w.cell? ⟨b, off + j, Option.none⟩ = some (.int .i64 (A j))) := hc
  have HS : Hid (∀ j, j < m → w.cell? ⟨sb, so + j, Option.none⟩ = some (.int .i32 (S j)) ∧ -2147483648 ≤ S j ∧ S j ≤ 2147483647) := fun j hj => ⟨hsc j hj, hS j hj⟩
  have HA : Hid (∀ j, j < n → I64 (A j)) := hA
  clear hc ha hs hsc hA hS
  have hm1 : ¬ (65536 : Int) < (m : Int) := by omega
  have hn1 : ¬ (65536 : Int) < (n : Int) := by omega
  have ht1 : ¬ (1048576 : Int) < 8 * (n : Int) + 4 * (m : Int) := by omega
  go_enter Try.func3, Try.ntmps3
  go_wp2_with fail
  refine (zz9_yes _ _ n cap m scap sh lo hi _ hn hm).mono ?_
  rintro e w' ⟨rfl, rfl⟩
  go_wp2_with fail
  refine (cons_any b off n cap sb so m scap A S sh _ hn0 hn hm hm2 hsh HC.out HS.out).mono ?_
  rintro e w1 ⟨⟨r, rfl, hr⟩, k, rfl⟩
  cases r
  · clear hr
    go_wp2_with fail
    go_ret
    exact ⟨rfl, below_drewN (Below.refl _ _) k⟩
  have HL : Hid (Lad A n S m sh) := hr rfl
  clear hr
  have hb0 : Below w'.heap.size w' (w'.drewN k) := below_drewN (Below.refl _ _) k
  go_wp2_with fail
  refine (clone64_any _ n cap A _ (by omega) (HRa.out.later hb0)).mono ?_
  rintro e w2 ⟨ra, rc, rfl, hb2, hr2⟩
  obtain ⟨rfl, rfl, hrow2⟩ := hr2 hn0
  go_wp2_with fail
  refine (clone32_any _ m scap S _ (by omega) ((HRs.out.later hb0).later hb2)).mono ?_
  rintro e w3 ⟨rs, rsc, rfl, hb3, hr3⟩
  obtain ⟨rfl, rfl, hrow3⟩ := hr3 (by omega)
  have hcA : Hid (∀ j, j < n → w3.cell? ⟨w'.heap.size, j, Option.none⟩ = some (.int .i64 (A j))) := fun j hj => (hb3.cell (p := ⟨w'.heap.size, j, Option.none⟩) hrow2.lt).trans (hrow2.cell hj)
  have hcS : Hid (∀ j, j < m → w3.cell? ⟨w2.heap.size, j, Option.none⟩ = some (.int .i32 (S j))) := fun j hj => hrow3.cell hj
  have hlt2 : w'.heap.size < w2.heap.size := hrow2.lt
  have hlt3 : w2.heap.size < w3.heap.size := hrow3.lt
  have HB : Hid (Below w'.heap.size w' w3) := (hb0.trans hb2).trans (hb3.mono hb2.size)
  clear hr2 hr3 hb0 hb2 hb3 hrow2 hrow3
  go_wp2_with fail
  refine (zzSpan_any _ _ n n m m sh lo hi (fun x => ((cnt A n x : Nat) : Int)) _ hlo hhi (fun W hbW hbox => ?_)).mono ?_
  · exact pastOf_lad hn0 hn hm hsh hbox (fun j hj => (hbW.cell (p := ⟨w'.heap.size, j, Option.none⟩) (by show w'.heap.size < _; omega)).trans (hcA.out j hj)) (fun j hj => (hbW.cell (p := ⟨w2.heap.size, j, Option.none⟩) hlt3).trans (hcS.out j hj)) HA.out (HL.out)
  rintro e w4 ⟨rfl, hb4⟩
  have hc4 : Hid (∀ j, j < n → w4.cell? ⟨w'.heap.size, 0 + j, Option.none⟩ = some (.int .i64 (A j))) := fun j hj => by
    rw [Nat.zero_add]
    exact (hb4.cell (p := ⟨w'.heap.size, j, Option.none⟩) (by show w'.heap.size < _; omega)).trans (hcA.out j hj)
  have HB4 : Hid (Below w'.heap.size w' w4) := HB.out.trans (hb4.mono (by omega))
  clear hb4
  go_wp2_with fail
  refine (count_any w'.heap.size 0 n n A lo _ hn hc4.out).mono ?_
  rintro e w5 ⟨rfl, rfl⟩
  go_wp2_with fail
  refine (count_any w'.heap.size 0 n n A hi _ hn hc4.out).mono ?_
  rintro e w6 ⟨rfl, rfl⟩
  go_wp2_with fail
  go_ret
  exact ⟨rfl, HB4.out⟩

end Go.Proofs.Qxb6605989a
