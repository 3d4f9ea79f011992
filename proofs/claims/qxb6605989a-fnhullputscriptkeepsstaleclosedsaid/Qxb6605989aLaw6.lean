/-
  THE WALK of FnHullPutScriptKeepsStaleClosed.
-/
import Derived.Test.Qxb6605989aLaw5
namespace Go.Proofs.Qxb6605989a
open Go.RowKit

/-! ### The law, where it is idle -/
set_option maxHeartbeats 400000 in
theorem law6_big (a1 a2 a3 : Option Addr) (n c1 an c2 m c3 : Nat) (lv i j : Int) (on on2 : Bool) (w : World) (h : ¬ (n ≤ 65536 ∧ an ≤ 65536 ∧ m ≤ 131072)) :
    Calls Try.prog 6 #[.slice a1 n c1, .slice a2 an c2, .int .i64 lv, .slice a3 m c3, .int .i64 i, .bool on, .int .i64 j, .bool on2] w fun e w' => e = .returned (.bool true) ∧ Below w.heap.size w w' := by
  go_enter Try.func6, Try.ntmps6
  go_wp2_with fail
  refine (zz25_any a1 a2 a3 n c1 an c2 m c3 lv i j on on2 _).mono ?_
  rintro e w' ⟨⟨r, rfl⟩, rfl⟩
  cases r
  · go_wp2_with fail
    go_ret
    exact ⟨rfl, Below.refl _ _⟩
  · go_wp2_with fail
    refine (big_yes a1 a2 a3 n c1 an c2 m c3 _ h).mono ?_
    rintro e w' ⟨rfl, rfl⟩
    go_wp2_with fail
    go_ret
    exact ⟨rfl, Below.refl _ _⟩

set_option maxHeartbeats 400000 in
theorem law6_bad (a1 a2 a3 : Option Addr) (n c1 an c2 m c3 : Nat) (lv i j : Int) (on on2 : Bool) (w : World) (h1 : n ≤ 65536) (h2 : an ≤ 65536) (h3 : m ≤ 131072) (h : ¬ Fits n an m lv) :
    Calls Try.prog 6 #[.slice a1 n c1, .slice a2 an c2, .int .i64 lv, .slice a3 m c3, .int .i64 i, .bool on, .int .i64 j, .bool on2] w fun e w' => e = .returned (.bool true) ∧ Below w.heap.size w w' := by
  go_enter Try.func6, Try.ntmps6
  go_wp2_with fail
  refine (zz25_yes a1 a2 a3 n c1 an c2 m c3 lv i j on on2 _ h1 h2 h3).mono ?_
  rintro e w' ⟨rfl, rfl⟩
  go_wp2_with fail
  refine (big_no a1 a2 a3 n c1 an c2 m c3 _ h1 h2 h3).mono ?_
  rintro e w' ⟨rfl, rfl⟩
  go_wp2_with fail
  refine (ok_bad a1 a2 a3 n c1 an c2 m c3 lv _ h).mono ?_
  rintro e w' ⟨rfl, rfl⟩
  go_wp2_with fail
  go_ret
  exact ⟨rfl, Below.refl _ _⟩

set_option maxHeartbeats 400000 in
theorem law6_zero (a1 a2 a3 : Option Addr) (c1 c2 m c3 : Nat) (St : Nat → Bool) (lv : Nat) (i j : Int) (on on2 : Bool) (w : World) (h1 : 1 ≤ lv) (h2 : lv ≤ 65536) (hm : m = 2 * lv) (hs : RowO w a3 m c3 (fun j => .bool (St j))) :
    Calls Try.prog 6 #[.slice a1 0 c1, .slice a2 0 c2, .int .i64 lv, .slice a3 m c3, .int .i64 i, .bool on, .int .i64 j, .bool on2] w fun e w' => e = .returned (.bool true) ∧ Below w.heap.size w w' := by
  obtain ⟨sb, so, rfl, hc⟩ := hs.pos (by omega)
  have HC : Hid (∀ j, j < m → w.cell? ⟨sb, so + j, Option.none⟩ = some (.bool (St j))) := hc
  have HM : Hid (m = 2 * lv) := hm
  have hm1 : m ≤ 131072 := by omega
  clear hc hs hm
  by_cases hi : i < 0
  all_goals
    go_enter Try.func6, Try.ntmps6
    go_wp2_with fail
    refine (zz25_yes a1 a2 _ 0 c1 0 c2 m c3 lv i j on on2 _ (by omega) (by omega) hm1).mono ?_
    rintro e w' ⟨rfl, rfl⟩
    go_wp2_with fail
    refine (big_no a1 a2 _ 0 c1 0 c2 m c3 _ (by omega) (by omega) hm1).mono ?_
    rintro e w' ⟨rfl, rfl⟩
    go_wp2_with fail
    refine (ok_zero a1 a2 c1 c2 sb so m c3 St lv _ h1 h2 HM.out HC.out).mono ?_
    rintro e w' ⟨⟨r, rfl⟩, rfl⟩
    cases r
    all_goals
      go_wp2_with fail
      go_ret
      exact ⟨rfl, Below.refl _ _⟩

/-! ### A point that is none of the tree's -/
set_option maxHeartbeats 400000 in
theorem law6_out (a1 a2 a3 : Option Addr) (n c1 c2 m c3 : Nat) (A : Nat → Int) (St : Nat → Bool) (lv : Nat) (i j : Int) (on on2 : Bool) (w : World) (hn0 : 0 < n) (hn : n ≤ 65536) (h1 : 1 ≤ lv) (h2 : lv ≤ 65536) (hm : m = 2 * lv)
    (ha : RowO w a2 n c2 (fun j => .int .i64 (A j))) (hs : RowO w a3 m c3 (fun j => .bool (St j))) (hi : i < 0 ∨ (n : Int) ≤ i ∨ j < 0 ∨ (n : Int) ≤ j) :
    Calls Try.prog 6 #[.slice a1 n c1, .slice a2 n c2, .int .i64 lv, .slice a3 m c3, .int .i64 i, .bool on, .int .i64 j, .bool on2] w fun e w' => e = .returned (.bool true) ∧ Below w.heap.size w w' := by
  obtain ⟨ab, ao, rfl, hca⟩ := ha.pos hn0
  obtain ⟨sb, so, rfl, hc⟩ := hs.pos (by omega)
  have HC : Hid (∀ j, j < m → w.cell? ⟨sb, so + j, Option.none⟩ = some (.bool (St j))) := hc
  have HA : Hid (∀ j, j < n → w.cell? ⟨ab, ao + j, Option.none⟩ = some (.int .i64 (A j))) := hca
  have HM : Hid (m = 2 * lv) := hm
  have hm1 : m ≤ 131072 := by omega
  clear hc hca hs ha hm
  have hcase : i < 0 ∨ (0 ≤ i ∧ (n : Int) ≤ i) ∨ (0 ≤ i ∧ i < (n : Int) ∧ j < 0) ∨ (0 ≤ i ∧ i < (n : Int) ∧ 0 ≤ j ∧ (n : Int) ≤ j) := by omega
  clear hi
  rcases hcase with g1 | ⟨g1, g2⟩ | ⟨g1, g2, g3⟩ | ⟨g1, g2, g3, g4⟩
  all_goals
    go_enter Try.func6, Try.ntmps6
    go_wp2_with fail
    refine (zz25_yes a1 _ _ n c1 n c2 m c3 lv i j on on2 _ hn hn hm1).mono ?_
    rintro e w' ⟨rfl, rfl⟩
    go_wp2_with fail
    refine (big_no a1 _ _ n c1 n c2 m c3 _ hn hn hm1).mono ?_
    rintro e w' ⟨rfl, rfl⟩
    go_wp2_with fail
    refine (ok_pos a1 n c1 ab ao c2 sb so m c3 A St lv _ hn h1 h2 HM.out HA.out HC.out).mono ?_
    rintro e w' ⟨⟨r, rfl, hr⟩, rfl⟩
    clear hr
    cases r
    all_goals
      go_wp2_with fail
      go_ret
      exact ⟨rfl, Below.refl _ _⟩

set_option maxHeartbeats 1000000 in
theorem law6_pos (a1 a2 a3 : Option Addr) (n c1 c2 m c3 : Nat) (I : Nat → Bool) (A : Nat → Int) (St : Nat → Bool) (lv i j : Nat) (on on2 : Bool) (w : World) (hn : n ≤ 65536) (h1 : 1 ≤ lv) (h2 : lv ≤ 65536) (hm : m = 2 * lv)
    (hI : RowO w a1 n c1 (fun j => .bool (I j))) (ha : RowO w a2 n c2 (fun j => .int .i64 (A j))) (hs : RowO w a3 m c3 (fun j => .bool (St j))) (hi : i < n) (hj : j < n) :
    Calls Try.prog 6 #[.slice a1 n c1, .slice a2 n c2, .int .i64 lv, .slice a3 m c3, .int .i64 i, .bool on, .int .i64 j, .bool on2] w fun e w' => e = .returned (.bool true) ∧ Below w.heap.size w w' := by
  have HRI : Hid (RowO w a1 n c1 (fun j => .bool (I j))) := hI
  have HRA : Hid (RowO w a2 n c2 (fun j => .int .i64 (A j))) := ha
  have HRS : Hid (RowO w a3 m c3 (fun j => .bool (St j))) := hs
  obtain ⟨ab, ao, rfl, hca⟩ := ha.pos (by omega)
  obtain ⟨sb, so, rfl, hc⟩ := hs.pos (by omega)
  have HC : Hid (∀ j, j < m → w.cell? ⟨sb, so + j, Option.none⟩ = some (.bool (St j))) := hc
  have HA : Hid (∀ j, j < n → w.cell? ⟨ab, ao + j, Option.none⟩ = some (.int .i64 (A j))) := hca
  have HM : Hid (m = 2 * lv) := hm
  have hm1 : m ≤ 131072 := by omega
  have hm0 : 0 < m := by omega
  have hn0 : 0 < n := by omega
  have hi1 : (i : Int) < (n : Int) := by omega
  have hj1 : (j : Int) < (n : Int) := by omega
  clear hc hca hs ha hm hI
  go_enter Try.func6, Try.ntmps6
  go_wp2_with fail
  refine (zz25_yes a1 _ _ n c1 n c2 m c3 lv i j on on2 _ hn hn hm1).mono ?_
  rintro e w' ⟨rfl, rfl⟩
  go_wp2_with fail
  refine (big_no a1 _ _ n c1 n c2 m c3 _ hn hn hm1).mono ?_
  rintro e w' ⟨rfl, rfl⟩
  go_wp2_with fail
  refine (ok_pos a1 n c1 ab ao c2 sb so m c3 A St lv _ hn h1 h2 HM.out HA.out HC.out).mono ?_
  rintro e w' ⟨⟨r, rfl, hr⟩, rfl⟩
  cases r
  · clear hr
    go_wp2_with fail
    go_ret
    exact ⟨rfl, Below.refl _ _⟩
  have HOK : Hid (StateOK n A lv m St) := hr.1 rfl
  clear hr
  -- the five clones
  go_wp2_with fail
  refine (cloneB_any a1 n c1 I _ (by omega) HRI.out).mono ?_
  rintro e w1 ⟨ra, rc, rfl, hb1, hr1⟩
  obtain ⟨rfl, rfl, hrow1⟩ := hr1 hn0
  have R1 : Hid (BRow w1 w'.heap.size n I) := hrow1
  have L1 : w'.heap.size < w1.heap.size := hrow1.lt
  have D1 : Hid (Below w'.heap.size w' w1) := hb1
  clear hr1 hrow1 hb1
  go_wp2_with fail
  refine (cloneI_any _ n c2 A _ (by omega) (HRA.out.later D1.out)).mono ?_
  rintro e w2 ⟨ra, rc, rfl, hb2, hr2⟩
  obtain ⟨rfl, rfl, hrow2⟩ := hr2 hn0
  have R2 : Hid (w2.rowIs w1.heap.size 3 n (fun j => .int .i64 (A j))) := hrow2
  have L2 : w1.heap.size < w2.heap.size := hrow2.lt
  have D2 : Hid (Below w1.heap.size w1 w2) := hb2
  clear hr2 hrow2 hb2
  go_wp2_with fail
  refine (cloneB_any _ m c3 St _ (by omega) ((HRS.out.later D1.out).later D2.out)).mono ?_
  rintro e w3 ⟨ra, rc, rfl, hb3, hr3⟩
  obtain ⟨rfl, rfl, hrow3⟩ := hr3 hm0
  have R3 : Hid (BRow w3 w2.heap.size m St) := hrow3
  have L3 : w2.heap.size < w3.heap.size := hrow3.lt
  have D3 : Hid (Below w2.heap.size w2 w3) := hb3
  clear hr3 hrow3 hb3
  go_wp2_with fail
  refine (cloneB_any _ n n I _ (by omega) (rowO_own ((R1.out.later D2.out).later D3.out))).mono ?_
  rintro e w4 ⟨ra, rc, rfl, hb4, hr4⟩
  obtain ⟨rfl, rfl, hrow4⟩ := hr4 hn0
  have R4 : Hid (BRow w4 w3.heap.size n I) := hrow4
  have L4 : w3.heap.size < w4.heap.size := hrow4.lt
  have D4 : Hid (Below w3.heap.size w3 w4) := hb4
  clear hr4 hrow4 hb4
  go_wp2_with fail
  refine (cloneB_any _ m m St _ (by omega) (rowO_own (R3.out.later D4.out))).mono ?_
  rintro e w5 ⟨ra, rc, rfl, hb5, hr5⟩
  obtain ⟨rfl, rfl, hrow5⟩ := hr5 hm0
  have R5 : Hid (BRow w5 w4.heap.size m St) := hrow5
  have L5 : w4.heap.size < w5.heap.size := hrow5.lt
  have D5 : Hid (Below w4.heap.size w4 w5) := hb5
  clear hr5 hrow5 hb5
  have HF : Hid (Five w' w5 w'.heap.size w1.heap.size w2.heap.size w3.heap.size w4.heap.size n m I A St) := five_mk R1.out D1.out R2.out D2.out R3.out D3.out R4.out D4.out R5.out D5.out
  obtain ⟨ai, hai⟩ := Int.eq_ofNat_of_zero_le (HOK.out.1 i hi).1
  obtain ⟨aj, haj⟩ := Int.eq_ofNat_of_zero_le (HOK.out.1 j hj).1
  have hai8 : ai < 8 * lv := by have := (HOK.out.1 i hi).2; omega
  have haj8 : aj < 8 * lv := by have := (HOK.out.1 j hj).2; omega
  have hAi : Hid (w5.cell? ⟨w1.heap.size, i, Option.none⟩ = some (.int .i64 (ai : Int))) := by
    have h := HF.out.r2.cell hi
    rw [hai] at h
    exact h
  have hAj : Hid (w5.cell? ⟨w1.heap.size, j, Option.none⟩ = some (.int .i64 (aj : Int))) := by
    have h := HF.out.r2.cell hj
    rw [haj] at h
    exact h
  clear hai haj R1 R2 R3 R4 R5 D1 D2 D3 D4 D5 HRI HRA HRS HC HA
  -- the model's two puts
  go_wp2_with fail
  refine (model_any w3.heap.size w4.heap.size w1.heap.size n m I St lv i ai on _ hn hi h2 HM.out hai8 HF.out.r4 HF.out.r5 hAi.out (by omega) (by omega)).mono ?_
  rintro e w6 ⟨rfl, hp6⟩
  obtain ⟨o6, I1, T1, rI1, rT1, p1⟩ := hp6.res
  clear hp6
  have HO6 : Hid (Only w3.heap.size w4.heap.size w5 w6) := o6
  have Q1 : Hid (BRow w6 w3.heap.size n I1) := rI1
  have Q2 : Hid (BRow w6 w4.heap.size m T1) := rT1
  have Q3 : Hid (PutRes I St i (lv + ai / 8) on m I1 T1) := p1
  have hA6i : Hid (w6.cell? ⟨w1.heap.size, i, Option.none⟩ = some (.int .i64 (ai : Int))) := (o6.cell (p := ⟨w1.heap.size, i, Option.none⟩) (by show w1.heap.size < _; omega) (by show w1.heap.size ≠ _; omega) (by show w1.heap.size ≠ _; omega)).trans hAi.out
  have hA6j : Hid (w6.cell? ⟨w1.heap.size, j, Option.none⟩ = some (.int .i64 (aj : Int))) := (o6.cell (p := ⟨w1.heap.size, j, Option.none⟩) (by show w1.heap.size < _; omega) (by show w1.heap.size ≠ _; omega) (by show w1.heap.size ≠ _; omega)).trans hAj.out
  have hI6 : Hid (BRow w6 w'.heap.size n I) := HF.out.r1.only o6 (by omega) (by omega)
  have hS6 : Hid (BRow w6 w2.heap.size m St) := HF.out.r3.only o6 (by omega) (by omega)
  have hsz6 := o6.size
  have HB6 : Hid (Below w'.heap.size w' w6) := HF.out.bel.trans (o6.below (by omega) (by omega) (by omega))
  clear rI1 rT1 p1 hAi hAj o6 HF HO6
  go_wp2_with fail
  refine (model_any w3.heap.size w4.heap.size w1.heap.size n m I1 T1 lv j aj on2 _ hn hj h2 HM.out haj8 Q1.out Q2.out hA6j.out (by omega) (by omega)).mono ?_
  rintro e w7 ⟨rfl, hp7⟩
  obtain ⟨o7, I2, T2, rI2, rT2, p2⟩ := hp7.res
  clear hp7
  have Q4 : Hid (BRow w7 w3.heap.size n I2) := rI2
  have Q5 : Hid (BRow w7 w4.heap.size m T2) := rT2
  have Q6 : Hid (PutRes I1 T1 j (lv + aj / 8) on2 m I2 T2) := p2
  have hA7i : Hid (w7.cell? ⟨w1.heap.size, i, Option.none⟩ = some (.int .i64 (ai : Int))) := (o7.cell (p := ⟨w1.heap.size, i, Option.none⟩) (by show w1.heap.size < _; omega) (by show w1.heap.size ≠ _; omega) (by show w1.heap.size ≠ _; omega)).trans hA6i.out
  have hA7j : Hid (w7.cell? ⟨w1.heap.size, j, Option.none⟩ = some (.int .i64 (aj : Int))) := (o7.cell (p := ⟨w1.heap.size, j, Option.none⟩) (by show w1.heap.size < _; omega) (by show w1.heap.size ≠ _; omega) (by show w1.heap.size ≠ _; omega)).trans hA6j.out
  have hI7 : Hid (BRow w7 w'.heap.size n I) := hI6.out.only o7 (by omega) (by omega)
  have hS7 : Hid (BRow w7 w2.heap.size m St) := hS6.out.only o7 (by omega) (by omega)
  have hsz7 := o7.size
  have HB7 : Hid (Below w'.heap.size w' w7) := HB6.out.trans (o7.below (by omega) (by omega) (by omega))
  clear rI2 rT2 p2 o7 hA6i hA6j hI6 hS6 HB6 Q1 Q2
  -- the tree's two puts
  go_wp2_with fail
  refine (zzPut_any w'.heap.size w2.heap.size w1.heap.size n m I St lv i ai on _ hn hi h2 HM.out hai8 hI7.out hS7.out hA7i.out (by omega) (by omega) HOK.out.2).mono ?_
  rintro e w8 ⟨rfl, hp8⟩
  obtain ⟨o8, I3, T3, rI3, rT3, p3⟩ := hp8.res
  clear hp8
  have Q7 : Hid (BRow w8 w'.heap.size n I3) := rI3
  have Q8 : Hid (BRow w8 w2.heap.size m T3) := rT3
  have Q9 : Hid (PutRes I St i (lv + ai / 8) on m I3 T3) := p3
  have E1 : Hid (I3 = I1 ∧ ∀ k, k < m → T3 k = T1 k) := putRes_same p3 Q3.out (fun _ _ => rfl)
  have C1 : Hid (Closed T3 m) := putRes_closed p3 HOK.out.2
  have hA8j : Hid (w8.cell? ⟨w1.heap.size, j, Option.none⟩ = some (.int .i64 (aj : Int))) := (o8.cell (p := ⟨w1.heap.size, j, Option.none⟩) (by show w1.heap.size < _; omega) (by show w1.heap.size ≠ _; omega) (by show w1.heap.size ≠ _; omega)).trans hA7j.out
  have M1 : Hid (BRow w8 w3.heap.size n I2) := Q4.out.only o8 (by omega) (by omega)
  have M2 : Hid (BRow w8 w4.heap.size m T2) := Q5.out.only o8 (by omega) (by omega)
  have hsz8 := o8.size
  have HB8 : Hid (Below w'.heap.size w' w8) := HB7.out.trans (o8.below (by omega) (by omega) (by omega))
  clear rI3 rT3 p3 o8 hA7i hA7j hI7 hS7 HB7 Q4 Q5
  go_wp2_with fail
  refine (zzPut_any w'.heap.size w2.heap.size w1.heap.size n m I3 T3 lv j aj on2 _ hn hj h2 HM.out haj8 Q7.out Q8.out hA8j.out (by omega) (by omega) C1.out).mono ?_
  rintro e w9 ⟨rfl, hp9⟩
  obtain ⟨o9, I4, T4, rI4, rT4, p4⟩ := hp9.res
  clear hp9
  have N1 : Hid (BRow w9 w'.heap.size n I4) := rI4
  have N2 : Hid (BRow w9 w2.heap.size m T4) := rT4
  have N3 : Hid (BRow w9 w3.heap.size n I2) := M1.out.only o9 (by omega) (by omega)
  have N4 : Hid (BRow w9 w4.heap.size m T2) := M2.out.only o9 (by omega) (by omega)
  have E2 : Hid (I4 = I2 ∧ ∀ k, k < m → T4 k = T2 k) := by
    have q4 := p4
    rw [E1.out.1] at q4
    exact putRes_same q4 Q6.out E1.out.2
  have C2 : Hid (Closed T4 m) := putRes_closed p4 C1.out
  have HB9 : Hid (Below w'.heap.size w' w9) := HB8.out.trans (o9.below (by omega) (by omega) (by omega))
  clear rI4 rT4 p4 o9 hA8j M1 M2 HB8 Q7 Q8
  -- the three answers
  go_wp2_with fail
  refine (equal_same w'.heap.size w3.heap.size n I4 I2 _ (by omega) (fun k hk => N1.out.cell hk) (fun k hk => N3.out.cell hk) (fun k _ => by rw [E2.out.1])).mono ?_
  rintro e w10 ⟨rfl, k1, rfl⟩
  go_wp2_with fail
  refine (equal_same w2.heap.size w4.heap.size m T4 T2 _ hm1 (fun k hk => (N2.out.drewN k1).cell hk) (fun k hk => (N4.out.drewN k1).cell hk) E2.out.2).mono ?_
  rintro e w11 ⟨rfl, k2, rfl⟩
  go_wp2_with fail
  refine (closed_any w2.heap.size 0 m m T4 _ hm1 (fun k hk => by rw [Nat.zero_add]; exact (N2.out.drewN _).cell hk)).mono ?_
  rintro e w12 ⟨⟨r, rfl, hr⟩, rfl⟩
  obtain rfl : r = true := hr.2 C2.out
  clear hr
  go_wp2_with fail
  go_ret
  exact ⟨rfl, below_drewN HB9.out _⟩

end Go.Proofs.Qxb6605989a
