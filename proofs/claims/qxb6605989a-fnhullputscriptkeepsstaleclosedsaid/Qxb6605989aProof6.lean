/-
  THE PROOF OF 'Rows.FnHullPutScriptKeepsStaleClosedSaid': the kit's frame for a law, at this function's number and types, its walk out of Qxb6605989aLaw6.
-/
import Derived.Test.Qxb6605989aRows
import Derived.Test.Qxb6605989aLaw6
import Derived.WalkKit
import Derived.ProofKit
import Derived.OpenShut
import Derived.ShutString
import Derived.ChangeOld
import Derived.Below
import Derived.Deep.Grids
namespace Go.Proofs.Qxb6605989a.fnHullPutScriptKeepsStaleClosed
open Go.ChangeShapes Go.WideShapes Go.ChangeAt Go.RowKit
set_option linter.unusedVariables false

theorem own : ownKnob Try.prog.godebug = none := by kernel_rfl
theorem laidOut : laidOutB Try.prog = true := by kernel_rfl

/-- A slice of bools that came in. -/
theorem bools_in {H : Type} {enc : TypeId × Value → H} {W : World} {a : Option Addr} {len cap : Nat} {d : DataW H} {p : List MemPlace} (h : DataW.Trod enc Try.prog W 0 (fun _ => true) true 33 (.slice a len cap) d p) :
    ∃ B : Nat → Bool, RowO W a len cap (fun j => .bool (B j)) := by
  obtain ⟨fuel, hf⟩ := h
  rcases Deep.open_bools Try.underlying33 Try.underlying4 (by kernel_rfl) hf with ⟨hcs, _⟩ | ⟨x, l, c, B, hcs, _, hl, hm, _, hcell⟩
  · simp [Value.cells] at hcs
    obtain ⟨rfl, rfl, rfl⟩ := hcs
    exact ⟨fun _ => false, .inl ⟨rfl, rfl, rfl⟩⟩
  · simp [Value.cells] at hcs
    obtain ⟨rfl, rfl, rfl⟩ := hcs
    refine ⟨B, .inr ⟨x, rfl, fun j hj => ?_⟩⟩
    have h1 := hcell j (by omega)
    have hlt := World.block_lt_of_cell? W _ h1
    have hbl : (x.add j).block = x.block := by unfold Addr.add; split <;> rfl
    exact ⟨h1, by rw [← hbl]; exact hlt⟩
/-- A slice of ints that came in. -/
theorem ints_in {H : Type} {enc : TypeId × Value → H} {W : World} {a : Option Addr} {len cap : Nat} {d : DataW H} {p : List MemPlace} (h : DataW.Trod enc Try.prog W 0 (fun _ => true) true 34 (.slice a len cap) d p) :
    ∃ A : Nat → Int, RowO W a len cap (fun j => .int .i64 (A j)) := by
  obtain ⟨fuel, hf⟩ := h
  rcases open_ints Try.underlying34 Try.underlying3 (by kernel_rfl) hf with ⟨hcs, _⟩ | ⟨x, l, c, zs, hcs, _, hl, hm, hz, _, hcell, _⟩
  · simp [Value.cells] at hcs
    obtain ⟨rfl, rfl, rfl⟩ := hcs
    exact ⟨fun _ => 0, .inl ⟨rfl, rfl, rfl⟩⟩
  · simp [Value.cells] at hcs
    obtain ⟨rfl, rfl, rfl⟩ := hcs
    simp only [if_true] at hz
    refine ⟨fun j => zs.getD j 0, .inr ⟨x, rfl, fun j hj => ?_⟩⟩
    have h1 := hcell j (by omega)
    have hlt := World.block_lt_of_cell? W _ h1
    have hbl : (x.add j).block = x.block := by unfold Addr.add; split <;> rfl
    exact ⟨h1, by rw [← hbl]; exact hlt⟩

theorem walk (a0 : Option Addr) (n c0 : Nat) (I : Nat → Bool) (a1 : Option Addr) (an c1 : Nat) (A : Nat → Int) (lv : Int) (a3 : Option Addr) (m c3 : Nat) (St : Nat → Bool) (i : Int) (on : Bool) (j : Int) (on2 : Bool) (w : World)
    (w0 : RowO w a0 n c0 (fun j => .bool (I j))) (w1 : RowO w a1 an c1 (fun j => .int .i64 (A j))) (w3 : RowO w a3 m c3 (fun j => .bool (St j))) :
    Calls Try.prog 6 #[.slice a0 n c0, .slice a1 an c1, .int .i64 lv, .slice a3 m c3, .int .i64 i, .bool on, .int .i64 j, .bool on2] w fun e w' => e = .returned (.bool true) ∧ Below w.heap.size w w' := by
  by_cases hbig : n ≤ 65536 ∧ an ≤ 65536 ∧ m ≤ 131072
  · obtain ⟨h1, h2, h3⟩ := hbig
    by_cases hfit : Fits n an m lv
    · obtain ⟨f1, f2, f3, rfl⟩ := hfit
      obtain ⟨l, rfl⟩ := Int.eq_ofNat_of_zero_le (show 0 ≤ lv by omega)
      by_cases hn0 : an = 0
      · subst hn0
        exact law6_zero a0 a1 a3 c0 c1 m c3 St l i j on on2 w (by omega) (by omega) (by omega) w3
      · by_cases hi : i < 0 ∨ (an : Int) ≤ i ∨ j < 0 ∨ (an : Int) ≤ j
        · exact law6_out a0 a1 a3 an c0 c1 m c3 A St l i j on on2 w (by omega) h1 (by omega) (by omega) (by omega) w1 w3 hi
        · obtain ⟨k, rfl⟩ := Int.eq_ofNat_of_zero_le (show 0 ≤ i by omega)
          obtain ⟨k2, rfl⟩ := Int.eq_ofNat_of_zero_le (show 0 ≤ j by omega)
          exact law6_pos a0 a1 a3 an c0 c1 m c3 I A St l k k2 on on2 w h1 (by omega) (by omega) (by omega) w0 w1 w3 (by omega) (by omega)
    · exact law6_bad a0 a1 a3 n c0 an c1 m c3 lv i j on on2 w h1 h2 h3 hfit
  · exact law6_big a0 a1 a3 n c0 an c1 m c3 lv i j on on2 w hbig

set_option maxRecDepth 100000 in
theorem lifted (os : Os) (started : os.Started) (H : Type) (enc : TypeId × Value → H) :
    ReturnsInHanded {} Try.checked os 6 .any (Rows.fnHullPutScriptKeepsStaleClosedSpec.pre6 enc Try.prog Try.f6 Rows.fnHullPutScriptKeepsStaleClosedRow.domain false) (Rows.fnHullPutScriptKeepsStaleClosedSpec.post enc Try.prog Try.f6 false true false false) := by
  refine returnsInHanded_of_change (C := Try.checked) own started (by kernel_rfl) Try.func6
    (ChangeSpec.witness6 (enc := enc) (C := Try.checked) false ⟨#[], #[.slice none 0 0, .slice none 0 0, .int .i64 0, .slice none 0 0, .int .i64 0, .bool false, .int .i64 0, .bool false], []⟩ 8 (by kernel_rfl) (by kernel_rfl) (by kernel_rfl) (by kernel_rfl)) ?_
  intro W base args ds gs before hval0 hW hcnd _
  have hval : ∀ (j : Nat) t v, Try.f6.params[j]? = some t → args[j]? = some v → Value.okWide Try.prog W .any base t v := hval0
  have hW' := hW
  obtain ⟨p, q, hA0, hV, rfl, hfz, hnd⟩ := hW
  have hA : DataW.TrodAll enc Try.prog W 0 (fun _ => true) true Try.f6.params.toList args.toList ds p := hA0
  rw [Try.params6] at hA hval
  obtain ⟨v0, vs0, d0, ds0, p0, q0, hargs, rfl, rfl, h0, r0⟩ := trodAll_cons hA
  obtain ⟨v1, vs1, d1, ds1, p1, q1, rfl, rfl, rfl, h1, r1⟩ := trodAll_cons r0
  obtain ⟨v2, vs2, d2, ds2, p2, q2, rfl, rfl, rfl, h2, r2⟩ := trodAll_cons r1
  obtain ⟨v3, vs3, d3, ds3, p3, q3, rfl, rfl, rfl, h3, r3⟩ := trodAll_cons r2
  obtain ⟨v4, vs4, d4, ds4, p4, q4, rfl, rfl, rfl, h4, r4⟩ := trodAll_cons r3
  obtain ⟨v5, vs5, d5, ds5, p5, q5, rfl, rfl, rfl, h5, r5⟩ := trodAll_cons r4
  obtain ⟨v6, vs6, d6, ds6, p6, q6, rfl, rfl, rfl, h6, r6⟩ := trodAll_cons r5
  obtain ⟨v7, vs7, d7, ds7, p7, q7, rfl, rfl, rfl, h7, r7⟩ := trodAll_cons r6
  obtain ⟨rfl, rfl, rfl⟩ := trodAll_nil r7
  obtain rfl : args = #[v0, v1, v2, v3, v4, v5, v6, v7] := by cases args; simp_all
  obtain ⟨rfl, rfl⟩ := trodVars_none hV
  obtain ⟨a0, len0, cap0, rfl⟩ := okWide_slice Try.underlying33 (hval 0 33 v0 rfl rfl)
  have k0 := h0
  have lt0 : ∀ x ∈ p0, x.block < W.heap.size := by obtain ⟨m, hm⟩ := k0; exact DataW.trod_lt m _ _ _ hm
  obtain ⟨z0, w0⟩ := bools_in h0
  obtain ⟨a1, len1, cap1, rfl⟩ := okWide_slice Try.underlying34 (hval 1 34 v1 rfl rfl)
  have k1 := h1
  have lt1 : ∀ x ∈ p1, x.block < W.heap.size := by obtain ⟨m, hm⟩ := k1; exact DataW.trod_lt m _ _ _ hm
  obtain ⟨z1, w1⟩ := ints_in h1
  obtain ⟨a2, rfl, rfl, rfl, w2⟩ := open_int Try.underlying3 (hval 2 3 v2 rfl rfl) h2
  obtain ⟨a3, len3, cap3, rfl⟩ := okWide_slice Try.underlying33 (hval 3 33 v3 rfl rfl)
  have k3 := h3
  have lt3 : ∀ x ∈ p3, x.block < W.heap.size := by obtain ⟨m, hm⟩ := k3; exact DataW.trod_lt m _ _ _ hm
  obtain ⟨z3, w3⟩ := bools_in h3
  obtain ⟨a4, rfl, rfl, rfl, w4⟩ := open_int Try.underlying3 (hval 4 3 v4 rfl rfl) h4
  obtain ⟨a5, rfl, rfl, rfl⟩ := open_bool Try.underlying4 (hval 5 4 v5 rfl rfl) h5
  obtain ⟨a6, rfl, rfl, rfl, w6⟩ := open_int Try.underlying3 (hval 6 3 v6 rfl rfl) h6
  obtain ⟨a7, rfl, rfl, rfl⟩ := open_bool Try.underlying4 (hval 7 4 v7 rfl rfl) h7
  clear hA0 hval0
  refine (walk a0 len0 cap0 z0 a1 len1 cap1 z1 a2 a3 len3 cap3 z3 a4 a5 a6 a7 W w0 w1 w3).mono fun e W' ⟨he, bel⟩ => ?_
  subst he
  exact ⟨_, rfl, _, _, _, [], _, [], hW', trodAll_mk1 (shut_bool Try.underlying4 _), (trodAll_cons_mk (Below.trod laidOut (by kernel_rfl) (of_decide_eq_true (by kernel_rfl)) k0 bel lt0) (trodAll_cons_mk (Below.trod laidOut (by kernel_rfl) (of_decide_eq_true (by kernel_rfl)) k1 bel lt1) (trodAll_cons_mk (shut_int Try.underlying3 w2) (trodAll_cons_mk (Below.trod laidOut (by kernel_rfl) (of_decide_eq_true (by kernel_rfl)) k3 bel lt3) (trodAll_cons_mk (shut_int Try.underlying3 w4) (trodAll_cons_mk (shut_bool Try.underlying4 a5) (trodAll_cons_mk (shut_int Try.underlying3 w6) (trodAll_cons_mk (shut_bool Try.underlying4 a7) trodAll_mk0)))))))), rfl, bel.frame _, fun h => by cases h⟩

theorem over : Rows.fnHullPutScriptKeepsStaleClosedRow.holds Try.pinned (OpenSpec.ofChange Rows.fnHullPutScriptKeepsStaleClosedSpec) :=
  OpenClaim.holds_of_wide 6 Try.f6 rfl rfl rfl rfl rfl rfl rfl ⟨rfl, rfl, rfl, rfl, rfl⟩ rfl rfl rfl rfl rfl (by kernel_rfl) Try.func6 (by kernel_rfl)
    (of_decide_eq_true (by kernel_rfl)) (by unfold Func.isWrapper; first | (rw [if_pos (by decide +kernel)]; kernel_rfl) | (rw [if_neg (by decide +kernel)]; exact ⟨rfl, rfl⟩))
    (fun os started H enc _ => lifted os started H enc)

theorem proved : Rows.FnHullPutScriptKeepsStaleClosedSaid := over
end Go.Proofs.Qxb6605989a.fnHullPutScriptKeepsStaleClosed
namespace Go.Proofs.Qxb6605989a
theorem hull_script_proved : Rows.FnHullPutScriptKeepsStaleClosedSaid := fnHullPutScriptKeepsStaleClosed.proved
#print axioms hull_script_proved
end Go.Proofs.Qxb6605989a
