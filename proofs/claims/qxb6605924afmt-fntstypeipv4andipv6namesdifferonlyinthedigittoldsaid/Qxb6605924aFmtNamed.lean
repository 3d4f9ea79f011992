/-
  THE WALKS of the shared functions on the three told laws' roads: IDType.String and TSType.String at the named types (fmt is not come to there), singleDiff, hasPrefix, isNamedID, isNamedTS.
-/
import Derived.Test.Qxb6605924aFmtRows
import Derived.WalkKit
import Derived.WalkSpells
import Derived.WalkLawsBesides
import Derived.RegionTactic
namespace Go.Proofs.Qxb6605924aFmt
open Go.RowKit

/-! ### The plain functions -/
/-- What singleDiff has yet to do: the bytes that are left of both, the place, the place found so far. -/
def sdGo : List UInt8 → List UInt8 → Nat → Int → Int
  | a :: s, b :: p, i, k => if a = b then sdGo s p (i + 1) k else if 0 ≤ k then -1 else sdGo s p (i + 1) i
  | _, _, _, k => k
def sd (s p : List UInt8) : Int := if s.length = p.length then sdGo s p 0 (-1) else -1

theorem sdGo_step (s p : ByteArray) (i : Nat) (k : Int) (h1 : i < s.size) (h2 : i < p.size) :
    sdGo (s.data.toList.drop i) (p.data.toList.drop i) i k =
      if s[i] = p[i] then sdGo (s.data.toList.drop (i + 1)) (p.data.toList.drop (i + 1)) (i + 1) k
      else if 0 ≤ k then -1 else sdGo (s.data.toList.drop (i + 1)) (p.data.toList.drop (i + 1)) (i + 1) i := by
  rw [List.drop_eq_getElem_cons (l := s.data.toList) (by simpa using h1), List.drop_eq_getElem_cons (l := p.data.toList) (by simpa using h2)]
  rfl

theorem ret_int {k : IntKind} {a b : Int} (h : a = b) : Ending.returned (.int k a) = .returned (.int k b) := by rw [h]

theorem u8_eq {a b : UInt8} (h : ((a.toNat : Int) != (b.toNat : Int)) = false) : a = b := by
  have h1 : (a.toNat : Int) = (b.toNat : Int) := by simpa using h
  exact UInt8.toNat_inj.1 (by omega)
theorem u8_ne {a b : UInt8} (h : ((a.toNat : Int) != (b.toNat : Int)) = true) : ¬ a = b := by
  intro e; subst e; simp at h

set_option maxHeartbeats 400000 in
theorem singleDiff_any (s p : ByteArray) (w : World) (hs : s.size ≤ maxLen) (_hp : p.size ≤ maxLen) :
    Calls Tryf.prog 7 #[.string s, .string p] w fun e w' => e = .returned (.int .i64 (sd s.data.toList p.data.toList)) ∧ ∃ n, w' = w.drewN n := by
  unfold maxLen at hs
  by_cases hl : s.size = p.size
  · go_enter Tryf.func7, Tryf.ntmps7
    go_wp2
    go_loopw [5, 6] (fun k i wr => ∃ (j : Nat) (kk : Int), j ≤ s.size ∧ i = .int .i64 j ∧ k = .int .i64 kk ∧ Hid (sdGo (s.data.toList.drop j) (p.data.toList.drop j) j kk = sdGo s.data.toList p.data.toList 0 (-1)) ∧ ∃ n, wr = w.drewN n) (fun _ i _ => s.size - (intOf i).toNat)
    case atStart => exact ⟨0, -1, Nat.zero_le _, rfl, rfl, rfl, 0, rfl⟩
    case round =>
      obtain ⟨j, kk, hj, rfl, rfl, HS, n, hw⟩ := hrel
      subst hw
      by_cases hlt : j < s.size
      · have hlt2 : j < p.size := by omega
        have HT : Hid _ := sdGo_step s p j kk hlt hlt2
        go_wp2
        go_region
        all_goals go_wp2
        · have hne : (((s[j].toNat : Int) != (p[j].toNat : Int))) = true := by assumption
          have hk : 0 ≤ kk := by assumption
          go_ret
          refine ⟨ret_int ?_, n + 1, rfl⟩
          unfold sd
          rw [if_pos (by simpa using hl), ← HS.out, HT.out, if_neg (u8_ne hne), if_pos hk]
        · have hne : (((s[j].toNat : Int) != (p[j].toNat : Int))) = true := by assumption
          have hk : kk < 0 := by assumption
          go_roundw
          case rel => exact ⟨j + 1, j, by omega, by go_num, rfl, show _ = _ by rw [← HS.out, HT.out, if_neg (u8_ne hne), if_neg (by omega)], n + 1, rfl⟩
          case measure => simp [intOf]; omega
        · have hne : (((s[j].toNat : Int) != (p[j].toNat : Int))) = false := by assumption
          go_roundw
          case rel => exact ⟨j + 1, kk, by omega, by go_num, rfl, show _ = _ by rw [← HS.out, HT.out, if_pos (u8_eq hne)], n + 1, rfl⟩
          case measure => simp [intOf]; omega
      · go_wp2
        go_ret
        have e1 : s.data.toList.drop j = [] := List.drop_eq_nil_of_le (by simp; omega)
        have e2 := HS.out
        rw [e1] at e2
        refine ⟨ret_int ?_, n, rfl⟩
        unfold sd
        rw [if_pos (by simpa using hl), ← e2]
        rfl
  · have hne : ((s.size : Int) == (p.size : Int)) = false := by simp; omega
    go_enter Tryf.func7, Tryf.ntmps7
    go_wp2
    go_ret
    exact ⟨ret_int (by simp [sd]; omega), 0, rfl⟩

/-! ### The names, as bytes -/
abbrev sID4 : ByteArray := ⟨#[73, 68, 95, 73, 80, 86, 52, 95, 65, 68, 68, 82]⟩
abbrev sID6 : ByteArray := ⟨#[73, 68, 95, 73, 80, 86, 54, 95, 65, 68, 68, 82]⟩
abbrev sTS4 : ByteArray := ⟨#[84, 83, 95, 73, 80, 86, 52, 95, 65, 68, 68, 82, 95, 82, 65, 78, 71, 69]⟩
abbrev sTS6 : ByteArray := ⟨#[84, 83, 95, 73, 80, 86, 54, 95, 65, 68, 68, 82, 95, 82, 65, 78, 71, 69]⟩

abbrev sFQDN : ByteArray := ⟨#[73, 68, 95, 70, 81, 68, 78]⟩
abbrev sMail : ByteArray := ⟨#[73, 68, 95, 82, 70, 67, 56, 50, 50, 95, 65, 68, 68, 82]⟩

theorem id_1 (w : World) : Calls Tryf.prog 6 #[.int .u8 1] w fun e w' => e = .returned (.string sID4) ∧ w' = w := by
  go_enter Tryf.func6, Tryf.ntmps6
  go_wp2
  go_ret
  exact ⟨rfl, rfl⟩
theorem id_2 (w : World) : Calls Tryf.prog 6 #[.int .u8 2] w fun e w' => e = .returned (.string sFQDN) ∧ w' = w := by
  go_enter Tryf.func6, Tryf.ntmps6
  go_wp2
  go_ret
  exact ⟨rfl, rfl⟩
theorem id_3 (w : World) : Calls Tryf.prog 6 #[.int .u8 3] w fun e w' => e = .returned (.string sMail) ∧ w' = w := by
  go_enter Tryf.func6, Tryf.ntmps6
  go_wp2
  go_ret
  exact ⟨rfl, rfl⟩
theorem id_5 (w : World) : Calls Tryf.prog 6 #[.int .u8 5] w fun e w' => e = .returned (.string sID6) ∧ w' = w := by
  go_enter Tryf.func6, Tryf.ntmps6
  go_wp2
  go_ret
  exact ⟨rfl, rfl⟩
theorem ts_7 (w : World) : Calls Tryf.prog 8 #[.int .u8 7] w fun e w' => e = .returned (.string sTS4) ∧ w' = w := by
  go_enter Tryf.func8, Tryf.ntmps8
  go_wp2
  go_ret
  exact ⟨rfl, rfl⟩
theorem ts_8 (w : World) : Calls Tryf.prog 8 #[.int .u8 8] w fun e w' => e = .returned (.string sTS6) ∧ w' = w := by
  go_enter Tryf.func8, Tryf.ntmps8
  go_wp2
  go_ret
  exact ⟨rfl, rfl⟩

theorem sd_id46 (w : World) : Calls Tryf.prog 7 #[.string sID4, .string sID6] w fun e w' => e = .returned (.int .i64 6) ∧ ∃ n, w' = w.drewN n :=
  (singleDiff_any sID4 sID6 w (by decide) (by decide)).mono fun e w' ⟨h, hn⟩ => ⟨h.trans (ret_int (by decide)), hn⟩
theorem sd_id64 (w : World) : Calls Tryf.prog 7 #[.string sID6, .string sID4] w fun e w' => e = .returned (.int .i64 6) ∧ ∃ n, w' = w.drewN n :=
  (singleDiff_any sID6 sID4 w (by decide) (by decide)).mono fun e w' ⟨h, hn⟩ => ⟨h.trans (ret_int (by decide)), hn⟩
theorem sd_ts46 (w : World) : Calls Tryf.prog 7 #[.string sTS4, .string sTS6] w fun e w' => e = .returned (.int .i64 6) ∧ ∃ n, w' = w.drewN n :=
  (singleDiff_any sTS4 sTS6 w (by decide) (by decide)).mono fun e w' ⟨h, hn⟩ => ⟨h.trans (ret_int (by decide)), hn⟩
theorem sd_ts64 (w : World) : Calls Tryf.prog 7 #[.string sTS6, .string sTS4] w fun e w' => e = .returned (.int .i64 6) ∧ ∃ n, w' = w.drewN n :=
  (singleDiff_any sTS6 sTS4 w (by decide) (by decide)).mono fun e w' ⟨h, hn⟩ => ⟨h.trans (ret_int (by decide)), hn⟩

/-! ### hasPrefix -/
def hp : List UInt8 → List UInt8 → Bool
  | _, [] => true
  | a :: s, b :: p => if a = b then hp s p else false
  | [], _ :: _ => false

theorem hp_step (s p : ByteArray) (i : Nat) (h1 : i < s.size) (h2 : i < p.size) :
    hp (s.data.toList.drop i) (p.data.toList.drop i) = if s[i] = p[i] then hp (s.data.toList.drop (i + 1)) (p.data.toList.drop (i + 1)) else false := by
  rw [List.drop_eq_getElem_cons (l := s.data.toList) (by simpa using h1), List.drop_eq_getElem_cons (l := p.data.toList) (by simpa using h2)]
  rfl
theorem hp_short : ∀ (s p : List UInt8), s.length < p.length → hp s p = false
  | _, [], h => by simp at h
  | [], _ :: _, _ => rfl
  | a :: s, b :: p, h => by
    unfold hp
    split
    · exact hp_short s p (by simpa using h)
    · rfl
theorem ret_bool {a b : Bool} (h : a = b) : Ending.returned (.bool a) = .returned (.bool b) := by rw [h]

set_option maxHeartbeats 400000 in
theorem hasPrefix_any (s p : ByteArray) (w : World) (_hs : s.size ≤ maxLen) (hp' : p.size ≤ maxLen) :
    Calls Tryf.prog 11 #[.string s, .string p] w fun e w' => e = .returned (.bool (hp s.data.toList p.data.toList)) ∧ ∃ n, w' = w.drewN n := by
  unfold maxLen at hp'
  by_cases hl : s.size < p.size
  · go_enter Tryf.func11, Tryf.ntmps11
    go_wp2
    go_ret
    exact ⟨ret_bool (hp_short _ _ (by simpa using hl)).symm, 0, rfl⟩
  · go_enter Tryf.func11, Tryf.ntmps11
    go_wp2
    go_loopw [5] (fun i wr => ∃ j : Nat, j ≤ p.size ∧ i = .int .i64 j ∧ Hid (hp (s.data.toList.drop j) (p.data.toList.drop j) = hp s.data.toList p.data.toList) ∧ ∃ n, wr = w.drewN n) (fun i _ => p.size - (intOf i).toNat)
    case atStart => exact ⟨0, Nat.zero_le _, rfl, rfl, 0, rfl⟩
    case round =>
      obtain ⟨j, hj, rfl, HS, n, hw⟩ := hrel
      subst hw
      by_cases hlt : j < p.size
      · have hlt2 : j < s.size := by omega
        have HT : Hid _ := hp_step s p j hlt2 hlt
        go_wp2
        go_region
        all_goals go_wp2
        · have hne : (((s[j].toNat : Int) != (p[j].toNat : Int))) = true := by assumption
          go_ret
          exact ⟨ret_bool (by rw [← HS.out, HT.out, if_neg (u8_ne hne)]), n + 1, rfl⟩
        · have hne : (((s[j].toNat : Int) != (p[j].toNat : Int))) = false := by assumption
          go_roundw
          case rel => exact ⟨j + 1, by omega, by go_num, show _ = _ by rw [← HS.out, HT.out, if_pos (u8_eq hne)], n + 1, rfl⟩
          case measure => simp [intOf]; omega
      · go_wp2
        go_ret
        have e1 : p.data.toList.drop j = [] := List.drop_eq_nil_of_le (by simp; omega)
        have e2 := HS.out
        rw [e1] at e2
        exact ⟨ret_bool (by rw [← e2]; cases (List.drop j s.data.toList) <;> rfl), n, rfl⟩

theorem hp_ID (s : ByteArray) (h : hp s.data.toList [73, 68, 95] = true) (hs : s.size ≤ maxLen) (w : World) :
    Calls Tryf.prog 11 #[.string s, .string ⟨#[73, 68, 95]⟩] w fun e w' => e = .returned (.bool true) ∧ ∃ n, w' = w.drewN n :=
  (hasPrefix_any s ⟨#[73, 68, 95]⟩ w hs (by decide)).mono fun e w' ⟨he, hn⟩ => ⟨he.trans (ret_bool h), hn⟩
theorem hp_TS (s : ByteArray) (h : hp s.data.toList [84, 83, 95] = true) (hs : s.size ≤ maxLen) (w : World) :
    Calls Tryf.prog 11 #[.string s, .string ⟨#[84, 83, 95]⟩] w fun e w' => e = .returned (.bool true) ∧ ∃ n, w' = w.drewN n :=
  (hasPrefix_any s ⟨#[84, 83, 95]⟩ w hs (by decide)).mono fun e w' ⟨he, hn⟩ => ⟨he.trans (ret_bool h), hn⟩

/-! ### The laws -/
set_option maxHeartbeats 400000 in
theorem id_law1 (w : World) : Calls Tryf.prog 3 #[.int .u8 1] w fun e w' => e = .returned (.bool true) ∧ ∃ n, w' = w.drewN n := by
  go_enter Tryf.func3, Tryf.ntmps3
  go_wp2_with fail
  refine (id_1 _).mono ?_
  rintro e w' ⟨rfl, rfl⟩
  go_wp2_with fail
  refine (id_5 _).mono ?_
  rintro e w' ⟨rfl, rfl⟩
  go_wp2_with fail
  refine (sd_id46 _).mono ?_
  rintro e w' ⟨rfl, n, rfl⟩
  go_wp2_with fail
  go_ret
  exact ⟨ret_bool (by decide), n, rfl⟩
set_option maxHeartbeats 400000 in
theorem id_law5 (w : World) : Calls Tryf.prog 3 #[.int .u8 5] w fun e w' => e = .returned (.bool true) ∧ ∃ n, w' = w.drewN n := by
  go_enter Tryf.func3, Tryf.ntmps3
  go_wp2_with fail
  refine (id_5 _).mono ?_
  rintro e w' ⟨rfl, rfl⟩
  go_wp2_with fail
  refine (id_1 _).mono ?_
  rintro e w' ⟨rfl, rfl⟩
  go_wp2_with fail
  refine (sd_id64 _).mono ?_
  rintro e w' ⟨rfl, n, rfl⟩
  go_wp2_with fail
  go_ret
  exact ⟨ret_bool (by decide), n, rfl⟩
theorem id_law_any (t : Int) (w : World) : Calls Tryf.prog 3 #[.int .u8 t] w fun e w' => e = .returned (.bool true) ∧ ∃ n, w' = w.drewN n := by
  by_cases h1 : t = 1
  · subst h1; exact id_law1 w
  by_cases h5 : t = 5
  · subst h5; exact id_law5 w
  have e1 : (t != 1) = true := by simpa using h1
  have e5 : (t != 5) = true := by simpa using h5
  clear h1 h5
  go_enter Tryf.func3, Tryf.ntmps3
  go_wp2
  go_ret
  exact ⟨rfl, 0, rfl⟩

set_option maxHeartbeats 400000 in
theorem ts_law7 (w : World) : Calls Tryf.prog 4 #[.int .u8 7] w fun e w' => e = .returned (.bool true) ∧ ∃ n, w' = w.drewN n := by
  go_enter Tryf.func4, Tryf.ntmps4
  go_wp2_with fail
  refine (ts_7 _).mono ?_
  rintro e w' ⟨rfl, rfl⟩
  go_wp2_with fail
  refine (ts_8 _).mono ?_
  rintro e w' ⟨rfl, rfl⟩
  go_wp2_with fail
  refine (sd_ts46 _).mono ?_
  rintro e w' ⟨rfl, n, rfl⟩
  go_wp2_with fail
  go_ret
  exact ⟨ret_bool (by decide), n, rfl⟩
set_option maxHeartbeats 400000 in
theorem ts_law8 (w : World) : Calls Tryf.prog 4 #[.int .u8 8] w fun e w' => e = .returned (.bool true) ∧ ∃ n, w' = w.drewN n := by
  go_enter Tryf.func4, Tryf.ntmps4
  go_wp2_with fail
  refine (ts_8 _).mono ?_
  rintro e w' ⟨rfl, rfl⟩
  go_wp2_with fail
  refine (ts_7 _).mono ?_
  rintro e w' ⟨rfl, rfl⟩
  go_wp2_with fail
  refine (sd_ts64 _).mono ?_
  rintro e w' ⟨rfl, n, rfl⟩
  go_wp2_with fail
  go_ret
  exact ⟨ret_bool (by decide), n, rfl⟩
theorem ts_law_any (t : Int) (w : World) : Calls Tryf.prog 4 #[.int .u8 t] w fun e w' => e = .returned (.bool true) ∧ ∃ n, w' = w.drewN n := by
  by_cases h1 : t = 7
  · subst h1; exact ts_law7 w
  by_cases h5 : t = 8
  · subst h5; exact ts_law8 w
  have e1 : (t != 7) = true := by simpa using h1
  have e5 : (t != 8) = true := by simpa using h5
  clear h1 h5
  go_enter Tryf.func4, Tryf.ntmps4
  go_wp2
  go_ret
  exact ⟨rfl, 0, rfl⟩

/-! ### isNamedID, isNamedTS -/
def nID (t : Int) : Bool := decide (t = 1 ∨ t = 2 ∨ t = 3 ∨ t = 5)
def nTS (t : Int) : Bool := decide (t = 7 ∨ t = 8)
theorem isNamedID_any (t : Int) (w : World) : Calls Tryf.prog 9 #[.int .u8 t] w fun e w' => e = .returned (.bool (nID t)) ∧ w' = w := by
  go_enter Tryf.func9, Tryf.ntmps9
  go_wp2
  all_goals
    go_ret
    refine ⟨ret_bool ?_, rfl⟩
    rw [Bool.eq_iff_iff]
    simp [nID]
    try omega
theorem isNamedTS_any (t : Int) (w : World) : Calls Tryf.prog 10 #[.int .u8 t] w fun e w' => e = .returned (.bool (nTS t)) ∧ w' = w := by
  go_enter Tryf.func10, Tryf.ntmps10
  go_wp2
  all_goals
    go_ret
    refine ⟨ret_bool ?_, rfl⟩
    rw [Bool.eq_iff_iff]
    simp [nTS]
    try omega

/-! ### The third law -/
theorem isNamedID_at (t : Int) (b : Bool) (h : nID t = b) (w : World) : Calls Tryf.prog 9 #[.int .u8 t] w fun e w' => e = .returned (.bool b) ∧ w' = w := by
  subst h; exact isNamedID_any t w
theorem isNamedTS_at (t : Int) (b : Bool) (h : nTS t = b) (w : World) : Calls Tryf.prog 10 #[.int .u8 t] w fun e w' => e = .returned (.bool b) ∧ w' = w := by
  subst h; exact isNamedTS_any t w

set_option maxHeartbeats 400000 in
theorem dis_named (a b : Int) (sa sb : ByteArray) (ha : nID a = true) (hb : nTS b = true) (w : World)
    (ca : ∀ w, Calls Tryf.prog 6 #[.int .u8 a] w fun e w' => e = .returned (.string sa) ∧ w' = w) (cb : ∀ w, Calls Tryf.prog 8 #[.int .u8 b] w fun e w' => e = .returned (.string sb) ∧ w' = w)
    (hne : (sa.toList == sb.toList) = false) (hsa : hp sa.data.toList [73, 68, 95] = true) (hsb : hp sb.data.toList [84, 83, 95] = true) (la : sa.size ≤ maxLen) (lb : sb.size ≤ maxLen) :
    Calls Tryf.prog 5 #[.int .u8 a, .int .u8 b] w fun e w' => e = .returned (.bool true) ∧ ∃ n, w' = w.drewN n := by
  have HA : Hid _ := isNamedID_at a true ha
  have HB : Hid _ := isNamedTS_at b true hb
  have HCA : Hid _ := ca
  have HCB : Hid _ := cb
  have HPA : Hid _ := hp_ID sa hsa la
  have HPB : Hid _ := hp_TS sb hsb lb
  clear ha hb ca cb hsa hsb la lb
  go_enter Tryf.func5, Tryf.ntmps5
  go_wp2_with fail
  refine (HA.out _).mono ?_
  rintro e w' ⟨rfl, rfl⟩
  go_wp2_with fail
  refine (HB.out _).mono ?_
  rintro e w' ⟨rfl, rfl⟩
  go_wp2_with fail
  refine (HCA.out _).mono ?_
  rintro e w' ⟨rfl, rfl⟩
  go_wp2_with fail
  refine (HCB.out _).mono ?_
  rintro e w' ⟨rfl, rfl⟩
  go_wp2_with fail
  refine (HPA.out _).mono ?_
  rintro e w' ⟨rfl, n, rfl⟩
  go_wp2_with fail
  refine (HPB.out _).mono ?_
  rintro e w' ⟨rfl, m, rfl⟩
  go_wp2_with fail
  go_ret
  exact ⟨rfl, n + m, by simp⟩

set_option maxHeartbeats 400000 in
theorem dis_noID (a b : Int) (ha : nID a = false) (w : World) : Calls Tryf.prog 5 #[.int .u8 a, .int .u8 b] w fun e w' => e = .returned (.bool true) ∧ ∃ n, w' = w.drewN n := by
  have HA : Hid _ := isNamedID_at a false ha
  clear ha
  go_enter Tryf.func5, Tryf.ntmps5
  go_wp2_with fail
  refine (HA.out _).mono ?_
  rintro e w' ⟨rfl, rfl⟩
  go_wp2_with fail
  go_ret
  exact ⟨rfl, 0, rfl⟩
set_option maxHeartbeats 400000 in
theorem dis_noTS (a b : Int) (ha : nID a = true) (hb : nTS b = false) (w : World) : Calls Tryf.prog 5 #[.int .u8 a, .int .u8 b] w fun e w' => e = .returned (.bool true) ∧ ∃ n, w' = w.drewN n := by
  have HA : Hid _ := isNamedID_at a true ha
  have HB : Hid _ := isNamedTS_at b false hb
  clear ha hb
  go_enter Tryf.func5, Tryf.ntmps5
  go_wp2_with fail
  refine (HA.out _).mono ?_
  rintro e w' ⟨rfl, rfl⟩
  go_wp2_with fail
  refine (HB.out _).mono ?_
  rintro e w' ⟨rfl, rfl⟩
  go_wp2_with fail
  go_ret
  exact ⟨rfl, 0, rfl⟩

theorem dis_law_any (a b : Int) (w : World) : Calls Tryf.prog 5 #[.int .u8 a, .int .u8 b] w fun e w' => e = .returned (.bool true) ∧ ∃ n, w' = w.drewN n := by
  cases ha : nID a with
  | false => exact dis_noID a b ha w
  | true =>
    cases hb : nTS b with
    | false => exact dis_noTS a b ha hb w
    | true =>
      have ha' : a = 1 ∨ a = 2 ∨ a = 3 ∨ a = 5 := by simpa [nID] using ha
      have hb' : b = 7 ∨ b = 8 := by simpa [nTS] using hb
      clear ha hb
      rcases ha' with rfl | rfl | rfl | rfl <;> rcases hb' with rfl | rfl
      · exact dis_named 1 7 sID4 sTS4 rfl rfl w id_1 ts_7 (by decide +kernel) (by decide) (by decide) (by decide) (by decide)
      · exact dis_named 1 8 sID4 sTS6 rfl rfl w id_1 ts_8 (by decide +kernel) (by decide) (by decide) (by decide) (by decide)
      · exact dis_named 2 7 sFQDN sTS4 rfl rfl w id_2 ts_7 (by decide +kernel) (by decide) (by decide) (by decide) (by decide)
      · exact dis_named 2 8 sFQDN sTS6 rfl rfl w id_2 ts_8 (by decide +kernel) (by decide) (by decide) (by decide) (by decide)
      · exact dis_named 3 7 sMail sTS4 rfl rfl w id_3 ts_7 (by decide +kernel) (by decide) (by decide) (by decide) (by decide)
      · exact dis_named 3 8 sMail sTS6 rfl rfl w id_3 ts_8 (by decide +kernel) (by decide) (by decide) (by decide) (by decide)
      · exact dis_named 5 7 sID6 sTS4 rfl rfl w id_5 ts_7 (by decide +kernel) (by decide) (by decide) (by decide) (by decide)
      · exact dis_named 5 8 sID6 sTS6 rfl rfl w id_5 ts_8 (by decide +kernel) (by decide) (by decide) (by decide) (by decide)

end Go.Proofs.Qxb6605924aFmt
