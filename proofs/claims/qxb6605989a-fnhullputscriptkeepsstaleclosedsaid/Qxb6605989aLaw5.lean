/-
  THE WALK of FnHullPutMarksPath.
-/
import Derived.Test.Qxb6605989aPuts
namespace Go.Proofs.Qxb6605989a
open Go.RowKit

/-! ### What a put does to the two rows, as functions -/
def PutRes (I St : Nat → Bool) (i leaf : Nat) (on : Bool) (m : Nat) (I' T : Nat → Bool) : Prop :=
  (I i = on ∧ I' = I ∧ T = St) ∨ (I i ≠ on ∧ I' = upd I i on ∧ Marked St leaf m T)
theorem PutPost.res {w w' : World} {bi bs n m : Nat} {I St : Nat → Bool} {i leaf : Nat} {on : Bool} (h : PutPost w bi bs n m I St i leaf on w') :
    Only bi bs w w' ∧ ∃ I' T, BRow w' bi n I' ∧ BRow w' bs m T ∧ PutRes I St i leaf on m I' T := by
  obtain ⟨ho, T, hT, ⟨h1, h2, h3⟩ | ⟨h1, h2, h3⟩⟩ := h
  · exact ⟨ho, I, T, h2, hT, .inl ⟨h1, rfl, h3⟩⟩
  · exact ⟨ho, upd I i on, T, h2, hT, .inr ⟨h1, rfl, h3⟩⟩
theorem putRes_same {I St St2 : Nat → Bool} {i leaf : Nat} {on : Bool} {m : Nat} {I1 T1 I2 T2 : Nat → Bool} (h1 : PutRes I St i leaf on m I1 T1) (h2 : PutRes I St2 i leaf on m I2 T2) (he : ∀ j, j < m → St j = St2 j) :
    I1 = I2 ∧ ∀ j, j < m → T1 j = T2 j := by
  rcases h1 with ⟨a1, rfl, rfl⟩ | ⟨a1, rfl, m1⟩
  · rcases h2 with ⟨_, rfl, rfl⟩ | ⟨a2, _, _⟩
    · exact ⟨rfl, he⟩
    · exact absurd a1 a2
  · rcases h2 with ⟨a2, _, _⟩ | ⟨_, rfl, m2⟩
    · exact absurd a2 a1
    · refine ⟨rfl, fun j hj => ?_⟩
      rw [Bool.eq_iff_iff, m1 j hj, m2 j hj, he j hj]
theorem putRes_closed {I St : Nat → Bool} {i leaf : Nat} {on : Bool} {m : Nat} {I1 T1 : Nat → Bool} (h : PutRes I St i leaf on m I1 T1) (hc : Closed St m) : Closed T1 m := by
  rcases h with ⟨_, _, rfl⟩ | ⟨_, _, h⟩
  · exact hc
  · exact marked_closed h hc

/-! ### The law, where it is idle -/
set_option maxHeartbeats 400000 in
theorem law5_big (a1 a2 a3 : Option Addr) (n c1 an c2 m c3 : Nat) (lv i : Int) (on : Bool) (w : World) (h : ¬ (n ≤ 65536 ∧ an ≤ 65536 ∧ m ≤ 131072)) :
    Calls Try.prog 5 #[.slice a1 n c1, .slice a2 an c2, .int .i64 lv, .slice a3 m c3, .int .i64 i, .bool on] w fun e w' => e = .returned (.bool true) ∧ Below w.heap.size w w' := by
  go_enter Try.func5, Try.ntmps5
  go_wp2_with fail
  refine (zz17_any a1 a2 a3 n c1 an c2 m c3 lv i on _).mono ?_
  rintro e w' ⟨⟨r, rfl⟩, rfl⟩
  cases r
  · go_wp2_with fail
    go_ret
    exact ⟨rfl, Below.refl _ _⟩
  · go_wp2_with fail
    refine (big_yes a1 a2 a3 n c1 an c2 m c3 _ h).mono ?_
    rintro e w' ⟨rfl, rfl⟩
    go_wp2_with fail
    go_ret
    exact ⟨rfl, Below.refl _ _⟩

set_option maxHeartbeats 400000 in
theorem law5_bad (a1 a2 a3 : Option Addr) (n c1 an c2 m c3 : Nat) (lv i : Int) (on : Bool) (w : World) (h1 : n ≤ 65536) (h2 : an ≤ 65536) (h3 : m ≤ 131072) (h : ¬ Fits n an m lv) :
    Calls Try.prog 5 #[.slice a1 n c1, .slice a2 an c2, .int .i64 lv, .slice a3 m c3, .int .i64 i, .bool on] w fun e w' => e = .returned (.bool true) ∧ Below w.heap.size w w' := by
  go_enter Try.func5, Try.ntmps5
  go_wp2_with fail
  refine (zz17_yes a1 a2 a3 n c1 an c2 m c3 lv i on _ h1 h2 h3).mono ?_
  rintro e w' ⟨rfl, rfl⟩
  go_wp2_with fail
  refine (big_no a1 a2 a3 n c1 an c2 m c3 _ h1 h2 h3).mono ?_
  rintro e w' ⟨rfl, rfl⟩
  go_wp2_with fail
  refine (ok_bad a1 a2 a3 n c1 an c2 m c3 lv _ h).mono ?_
  rintro e w' ⟨rfl, rfl⟩
  go_wp2_with fail
  go_ret
  exact ⟨rfl, Below.refl _ _⟩

set_option maxHeartbeats 400000 in
theorem law5_zero (a1 a2 a3 : Option Addr) (c1 c2 m c3 : Nat) (St : Nat → Bool) (lv : Nat) (i : Int) (on : Bool) (w : World) (h1 : 1 ≤ lv) (h2 : lv ≤ 65536) (hm : m = 2 * lv) (hs : RowO w a3 m c3 (fun j => .bool (St j))) :
    Calls Try.prog 5 #[.slice a1 0 c1, .slice a2 0 c2, .int .i64 lv, .slice a3 m c3, .int .i64 i, .bool on] w fun e w' => e = .returned (.bool true) ∧ Below w.heap.size w w' := by
  obtain ⟨sb, so, rfl, hc⟩ := hs.pos (by omega)
  have HC : Hid (∀ j, j < m → w.cell? ⟨sb, so + j, Option.none⟩ = some (.bool (St j))) := hc
  have HM : Hid (m = 2 * lv) := hm
  have hm1 : m ≤ 131072 := by omega
  clear hc hs hm
  by_cases hi : i < 0
  all_goals
    go_enter Try.func5, Try.ntmps5
    go_wp2_with fail
    refine (zz17_yes a1 a2 _ 0 c1 0 c2 m c3 lv i on _ (by omega) (by omega) hm1).mono ?_
    rintro e w' ⟨rfl, rfl⟩
    go_wp2_with fail
    refine (big_no a1 a2 _ 0 c1 0 c2 m c3 _ (by omega) (by omega) hm1).mono ?_
    rintro e w' ⟨rfl, rfl⟩
    go_wp2_with fail
    refine (ok_zero a1 a2 c1 c2 sb so m c3 St lv _ h1 h2 HM.out HC.out).mono ?_
    rintro e w' ⟨⟨r, rfl⟩, rfl⟩
    cases r
    all_goals
      go_wp2_with fail
      go_ret
      exact ⟨rfl, Below.refl _ _⟩

/-! ### A point that is none of the tree's -/
set_option maxHeartbeats 400000 in
theorem law5_out (a1 a2 a3 : Option Addr) (n c1 c2 m c3 : Nat) (A : Nat → Int) (St : Nat → Bool) (lv : Nat) (i : Int) (on : Bool) (w : World) (hn0 : 0 < n) (hn : n ≤ 65536) (h1 : 1 ≤ lv) (h2 : lv ≤ 65536) (hm : m = 2 * lv)
    (ha : RowO w a2 n c2 (fun j => .int .i64 (A j))) (hs : RowO w a3 m c3 (fun j => .bool (St j))) (hi : i < 0 ∨ (n : Int) ≤ i) :
    Calls Try.prog 5 #[.slice a1 n c1, .slice a2 n c2, .int .i64 lv, .slice a3 m c3, .int .i64 i, .bool on] w fun e w' => e = .returned (.bool true) ∧ Below w.heap.size w w' := by
  obtain ⟨ab, ao, rfl, hca⟩ := ha.pos hn0
  obtain ⟨sb, so, rfl, hc⟩ := hs.pos (by omega)
  have HC : Hid (∀ j, j < m → w.cell? ⟨sb, so + j, Option.none⟩ = some (.bool (St j))) := hc
  have HA : Hid (∀ j, j < n → w.cell? ⟨ab, ao + j, Option.none⟩ = some (.int .i64 (A j))) := hca
  have HM : Hid (m = 2 * lv) := hm
  have hm1 : m ≤ 131072 := by omega
  clear hc hca hs ha hm
  by_cases hi0 : i < 0
  · clear hi
    go_enter Try.func5, Try.ntmps5
    go_wp2_with fail
    refine (zz17_yes a1 _ _ n c1 n c2 m c3 lv i on _ hn hn hm1).mono ?_
    rintro e w' ⟨rfl, rfl⟩
    go_wp2_with fail
    refine (big_no a1 _ _ n c1 n c2 m c3 _ hn hn hm1).mono ?_
    rintro e w' ⟨rfl, rfl⟩
    go_wp2_with fail
    refine (ok_pos a1 n c1 ab ao c2 sb so m c3 A St lv _ hn h1 h2 HM.out HA.out HC.out).mono ?_
    rintro e w' ⟨⟨r, rfl, hr⟩, rfl⟩
    clear hr
    cases r
    all_goals
      go_wp2_with fail
      go_ret
      exact ⟨rfl, Below.refl _ _⟩
  · have hi1 : (n : Int) ≤ i := by omega
    clear hi
    go_enter Try.func5, Try.ntmps5
    go_wp2_with fail
    refine (zz17_yes a1 _ _ n c1 n c2 m c3 lv i on _ hn hn hm1).mono ?_
    rintro e w' ⟨rfl, rfl⟩
    go_wp2_with fail
    refine (big_no a1 _ _ n c1 n c2 m c3 _ hn hn hm1).mono ?_
    rintro e w' ⟨rfl, rfl⟩
    go_wp2_with fail
    refine (ok_pos a1 n c1 ab ao c2 sb so m c3 A St lv _ hn h1 h2 HM.out HA.out HC.out).mono ?_
    rintro e w' ⟨⟨r, rfl, hr⟩, rfl⟩
    clear hr
    cases r
    all_goals
      go_wp2_with fail
      go_ret
      exact ⟨rfl, Below.refl _ _⟩

/-- A clone's row of bools, as the walks of the puts ask it. -/
theorem rowO_own {w : World} {b n : Nat} {T : Nat → Bool} (h : BRow w b n T) : RowO w (some ⟨b, 0, Option.none⟩) n n (fun j => .bool (T j)) :=
  .inr ⟨_, rfl, fun j hj => ⟨by rw [addp, Nat.zero_add]; exact h.cell hj, h.lt⟩⟩
theorem BRow.later {w w' : World} {b n : Nat} {T : Nat → Bool} (h : BRow w b n T) (hb : Below w.heap.size w w') : BRow w' b n T := World.rowIs.of_block h (hb.block b h.lt)

/-- The five clones, in the world behind them. -/
structure Five (w W : World) (b1 b2 b3 b4 b5 n m : Nat) (I : Nat → Bool) (A : Nat → Int) (St : Nat → Bool) : Prop where
  r1 : BRow W b1 n I
  r2 : W.rowIs b2 3 n (fun j => .int .i64 (A j))
  r3 : BRow W b3 m St
  r4 : BRow W b4 n I
  r5 : BRow W b5 m St
  bel : Below w.heap.size w W
  o0 : w.heap.size ≤ b1
  o1 : b1 < b2
  o2 : b2 < b3
  o3 : b3 < b4
  o4 : b4 < b5
theorem five_mk {w w1 w2 w3 w4 w5 : World} {n m : Nat} {I : Nat → Bool} {A : Nat → Int} {St : Nat → Bool}
    (R1 : BRow w1 w.heap.size n I) (D1 : Below w.heap.size w w1) (R2 : w2.rowIs w1.heap.size 3 n (fun j => .int .i64 (A j))) (D2 : Below w1.heap.size w1 w2)
    (R3 : BRow w3 w2.heap.size m St) (D3 : Below w2.heap.size w2 w3) (R4 : BRow w4 w3.heap.size n I) (D4 : Below w3.heap.size w3 w4) (R5 : BRow w5 w4.heap.size m St) (D5 : Below w4.heap.size w4 w5) :
    Five w w5 w.heap.size w1.heap.size w2.heap.size w3.heap.size w4.heap.size n m I A St := by
  have s1 := R1.lt
  have s2 := R2.lt
  have s3 := R3.lt
  have s4 := R4.lt
  refine ⟨(((R1.later D2).later D3).later D4).later D5, ?_, (R3.later D4).later D5, R4.later D5, R5, ?_, Nat.le_refl _, s1, s2, s3, s4⟩
  · exact R2.of_block ((D5.block _ (by omega)).trans ((D4.block _ (by omega)).trans (D3.block _ s2)))
  · exact D1.trans ((D2.trans ((D3.trans ((D4.trans (D5.mono D4.size)).mono D3.size)).mono D2.size)).mono D1.size)

set_option maxHeartbeats 1000000 in
theorem law5_pos (a1 a2 a3 : Option Addr) (n c1 c2 m c3 : Nat) (I : Nat → Bool) (A : Nat → Int) (St : Nat → Bool) (lv i : Nat) (on : Bool) (w : World) (hn : n ≤ 65536) (h1 : 1 ≤ lv) (h2 : lv ≤ 65536) (hm : m = 2 * lv)
    (hI : RowO w a1 n c1 (fun j => .bool (I j))) (ha : RowO w a2 n c2 (fun j => .int .i64 (A j))) (hs : RowO w a3 m c3 (fun j => .bool (St j))) (hi : i < n) :
    Calls Try.prog 5 #[.slice a1 n c1, .slice a2 n c2, .int .i64 lv, .slice a3 m c3, .int .i64 i, .bool on] w fun e w' => e = .returned (.bool true) ∧ Below w.heap.size w w' := by
  have HRI : Hid (RowO w a1 n c1 (fun j => .bool (I j))) := hI
  have HRA : Hid (RowO w a2 n c2 (fun j => .int .i64 (A j))) := ha
  have HRS : Hid (RowO w a3 m c3 (fun j => .bool (St j))) := hs
  obtain ⟨ab, ao, rfl, hca⟩ := ha.pos (by omega)
  obtain ⟨sb, so, rfl, hc⟩ := hs.pos (by omega)
  have HC : Hid (∀ j, j < m → w.cell? ⟨sb, so + j, Option.none⟩ = some (.bool (St j))) := hc
  have HA : Hid (∀ j, j < n → w.cell? ⟨ab, ao + j, Option.none⟩ = some (.int .i64 (A j))) := hca
  have HM : Hid (m = 2 * lv) := hm
  have hm1 : m ≤ 131072 := by omega
  have hm0 : 0 < m := by omega
  have hn0 : 0 < n := by omega
  have hi1 : (i : Int) < (n : Int) := by omega
  clear hc hca hs ha hm hI
  go_enter Try.func5, Try.ntmps5
  go_wp2_with fail
  refine (zz17_yes a1 _ _ n c1 n c2 m c3 lv i on _ hn hn hm1).mono ?_
  rintro e w' ⟨rfl, rfl⟩
  go_wp2_with fail
  refine (big_no a1 _ _ n c1 n c2 m c3 _ hn hn hm1).mono ?_
  rintro e w' ⟨rfl, rfl⟩
  go_wp2_with fail
  refine (ok_pos a1 n c1 ab ao c2 sb so m c3 A St lv _ hn h1 h2 HM.out HA.out HC.out).mono ?_
  rintro e w' ⟨⟨r, rfl, hr⟩, rfl⟩
  cases r
  · clear hr
    go_wp2_with fail
    go_ret
    exact ⟨rfl, Below.refl _ _⟩
  have HOK : Hid (StateOK n A lv m St) := hr.1 rfl
  clear hr
  -- the five clones
  go_wp2_with fail
  refine (cloneB_any a1 n c1 I _ (by omega) HRI.out).mono ?_
  rintro e w1 ⟨ra, rc, rfl, hb1, hr1⟩
  obtain ⟨rfl, rfl, hrow1⟩ := hr1 hn0
  have R1 : Hid (BRow w1 w'.heap.size n I) := hrow1
  have L1 : w'.heap.size < w1.heap.size := hrow1.lt
  have D1 : Hid (Below w'.heap.size w' w1) := hb1
  clear hr1 hrow1 hb1
  go_wp2_with fail
  refine (cloneI_any _ n c2 A _ (by omega) (HRA.out.later D1.out)).mono ?_
  rintro e w2 ⟨ra, rc, rfl, hb2, hr2⟩
  obtain ⟨rfl, rfl, hrow2⟩ := hr2 hn0
  have R2 : Hid (w2.rowIs w1.heap.size 3 n (fun j => .int .i64 (A j))) := hrow2
  have L2 : w1.heap.size < w2.heap.size := hrow2.lt
  have D2 : Hid (Below w1.heap.size w1 w2) := hb2
  clear hr2 hrow2 hb2
  go_wp2_with fail
  refine (cloneB_any _ m c3 St _ (by omega) ((HRS.out.later D1.out).later D2.out)).mono ?_
  rintro e w3 ⟨ra, rc, rfl, hb3, hr3⟩
  obtain ⟨rfl, rfl, hrow3⟩ := hr3 hm0
  have R3 : Hid (BRow w3 w2.heap.size m St) := hrow3
  have L3 : w2.heap.size < w3.heap.size := hrow3.lt
  have D3 : Hid (Below w2.heap.size w2 w3) := hb3
  clear hr3 hrow3 hb3
  go_wp2_with fail
  refine (cloneB_any _ n n I _ (by omega) (rowO_own ((R1.out.later D2.out).later D3.out))).mono ?_
  rintro e w4 ⟨ra, rc, rfl, hb4, hr4⟩
  obtain ⟨rfl, rfl, hrow4⟩ := hr4 hn0
  have R4 : Hid (BRow w4 w3.heap.size n I) := hrow4
  have L4 : w3.heap.size < w4.heap.size := hrow4.lt
  have D4 : Hid (Below w3.heap.size w3 w4) := hb4
  clear hr4 hrow4 hb4
  go_wp2_with fail
  refine (cloneB_any _ m m St _ (by omega) (rowO_own (R3.out.later D4.out))).mono ?_
  rintro e w5 ⟨ra, rc, rfl, hb5, hr5⟩
  obtain ⟨rfl, rfl, hrow5⟩ := hr5 hm0
  have R5 : Hid (BRow w5 w4.heap.size m St) := hrow5
  have L5 : w4.heap.size < w5.heap.size := hrow5.lt
  have D5 : Hid (Below w4.heap.size w4 w5) := hb5
  clear hr5 hrow5 hb5
  have HF : Hid (Five w' w5 w'.heap.size w1.heap.size w2.heap.size w3.heap.size w4.heap.size n m I A St) := five_mk R1.out D1.out R2.out D2.out R3.out D3.out R4.out D4.out R5.out D5.out
  obtain ⟨ai, hai⟩ := Int.eq_ofNat_of_zero_le (HOK.out.1 i hi).1
  have hai8 : ai < 8 * lv := by have := (HOK.out.1 i hi).2; omega
  have hAi : Hid (w5.cell? ⟨w1.heap.size, i, Option.none⟩ = some (.int .i64 (ai : Int))) := by
    have h := HF.out.r2.cell hi
    rw [hai] at h
    exact h
  clear hai R1 R2 R3 R4 R5 D1 D2 D3 D4 D5 HRI HRA HRS HC HA
  go_wp2_with fail
  refine (model_any w3.heap.size w4.heap.size w1.heap.size n m I St lv i ai on _ hn hi h2 HM.out hai8 HF.out.r4 HF.out.r5 hAi.out (by omega) (by omega)).mono ?_
  rintro e w6 ⟨rfl, hp6⟩
  have HP6 : Hid _ := hp6.res
  clear hp6
  obtain ⟨I1, T1, rI1, rT1, p1⟩ := HP6.out.2
  have HO6 : Hid _ := HP6.out.1
  have Q1 : Hid (BRow w6 w3.heap.size n I1) := rI1
  have Q2 : Hid (BRow w6 w4.heap.size m T1) := rT1
  have Q3 : Hid (PutRes I St i (lv + ai / 8) on m I1 T1) := p1
  have hA6 : Hid (w6.cell? ⟨w1.heap.size, i, Option.none⟩ = some (.int .i64 (ai : Int))) := (HO6.out.cell (p := ⟨w1.heap.size, i, Option.none⟩) (by show w1.heap.size < _; omega) (by show w1.heap.size ≠ _; omega) (by show w1.heap.size ≠ _; omega)).trans hAi.out
  have hI6 : Hid (BRow w6 w'.heap.size n I) := HF.out.r1.only HO6.out (by omega) (by omega)
  have hS6 : Hid (BRow w6 w2.heap.size m St) := HF.out.r3.only HO6.out (by omega) (by omega)
  have hsz6 := HO6.out.size
  clear rI1 rT1 p1 hAi HP6
  go_wp2_with fail
  refine (zzPut_any w'.heap.size w2.heap.size w1.heap.size n m I St lv i ai on _ hn hi h2 HM.out hai8 hI6.out hS6.out hA6.out (by omega) (by omega) HOK.out.2).mono ?_
  rintro e w7 ⟨rfl, hp7⟩
  have HP7 : Hid _ := hp7.res
  clear hp7
  obtain ⟨I2, T2, rI2, rT2, p2⟩ := HP7.out.2
  have HO7 : Hid _ := HP7.out.1
  have Q4 : Hid (BRow w7 w'.heap.size n I2) := rI2
  have Q5 : Hid (BRow w7 w2.heap.size m T2) := rT2
  have Q6 : Hid (PutRes I St i (lv + ai / 8) on m I2 T2) := p2
  have Q7 : Hid (BRow w7 w3.heap.size n I1) := Q1.out.only HO7.out (by omega) (by omega)
  have Q8 : Hid (BRow w7 w4.heap.size m T1) := Q2.out.only HO7.out (by omega) (by omega)
  have Q9 : Hid (I2 = I1 ∧ ∀ j, j < m → T2 j = T1 j) := putRes_same Q6.out Q3.out (fun _ _ => rfl)
  have HB : Hid (Below w'.heap.size w' w7) := (HF.out.bel.trans (HO6.out.below (by omega) (by omega) (by omega))).trans (HO7.out.below (by omega) (by omega) (by omega))
  clear rI2 rT2 p2 HP7
  go_wp2_with fail
  refine (equal_same w'.heap.size w3.heap.size n I2 I1 _ (by omega) (fun j hj => Q4.out.cell hj) (fun j hj => Q7.out.cell hj) (fun j _ => by rw [Q9.out.1])).mono ?_
  rintro e w8 ⟨rfl, k1, rfl⟩
  go_wp2_with fail
  refine (equal_same w2.heap.size w4.heap.size m T2 T1 _ hm1 (fun j hj => (Q5.out.drewN k1).cell hj) (fun j hj => (Q8.out.drewN k1).cell hj) Q9.out.2).mono ?_
  rintro e w9 ⟨rfl, k2, rfl⟩
  go_wp2_with fail
  go_ret
  exact ⟨rfl, below_drewN HB.out _⟩

end Go.Proofs.Qxb6605989a
