/-
  THE WALKS of modelPut, (*hullTree).put, ZZhullPut: what they write, and what they leave.
-/
import Derived.Test.Qxb6605989aHullState
namespace Go.Proofs.Qxb6605989a
open Go.RowKit

/-- Of what was there, at most blocks b1 and b2 have turned. -/
structure Only (b1 b2 : Nat) (w w' : World) : Prop where
  os : w'.os = w.os
  tape : w'.tape = w.tape
  output : w'.output = w.output
  size : w.heap.size ≤ w'.heap.size
  block : ∀ k, k < w.heap.size → k ≠ b1 → k ≠ b2 → w'.heap[k]? = w.heap[k]?

namespace Only
variable {b1 b2 : Nat} {w w' w'' : World}
theorem refl (b1 b2 : Nat) (w : World) : Only b1 b2 w w := ⟨rfl, rfl, rfl, Nat.le_refl _, fun _ _ _ _ => rfl⟩
theorem trans (h : Only b1 b2 w w') (k : Only b1 b2 w' w'') : Only b1 b2 w w'' :=
  ⟨k.os.trans h.os, k.tape.trans h.tape, k.output.trans h.output, Nat.le_trans h.size k.size, fun i hi h1 h2 => (k.block i (Nat.lt_of_lt_of_le hi h.size) h1 h2).trans (h.block i hi h1 h2)⟩
theorem drewN (h : Only b1 b2 w w') (n : Nat) : Only b1 b2 w (w'.drewN n) := ⟨h.os, h.tape, h.output, h.size, h.block⟩
theorem set1 (h : Only b1 b2 w w') (i : Nat) (v : Value) : Only b1 b2 w (w'.setCell ⟨b1, i, Option.none⟩ v) :=
  h.trans ⟨rfl, rfl, rfl, by simp [World.setCell], fun k _ h1 _ => Below.heap_setCell _ _ _ _ h1⟩
theorem set2 (h : Only b1 b2 w w') (i : Nat) (v : Value) : Only b1 b2 w (w'.setCell ⟨b2, i, Option.none⟩ v) :=
  h.trans ⟨rfl, rfl, rfl, by simp [World.setCell], fun k _ _ h2 => Below.heap_setCell _ _ _ _ h2⟩
theorem alloc (h : Only b1 b2 w w') (o : Obj) : Only b1 b2 w (w'.alloc o) :=
  h.trans ⟨rfl, rfl, rfl, by simp, fun k hk _ _ => Below.heap_alloc _ _ _ hk⟩
theorem cell (h : Only b1 b2 w w') {p : Addr} (hp : p.block < w.heap.size) (h1 : p.block ≠ b1) (h2 : p.block ≠ b2) : w'.cell? p = w.cell? p := World.cell?_of_block (w := w) (h.block p.block hp h1 h2)
theorem row (h : Only b1 b2 w w') {b n : Nat} {t : TypeId} {f : Nat → Value} (hr : w.rowIs b t n f) (h1 : b ≠ b1) (h2 : b ≠ b2) : w'.rowIs b t n f := hr.of_block (h.block b hr.lt h1 h2)
theorem below (h : Only b1 b2 w w') {B : Nat} (hB : B ≤ w.heap.size) (h1 : B ≤ b1) (h2 : B ≤ b2) : Below B w w' :=
  ⟨h.os, h.tape, h.output, h.size, fun k hk => h.block k (by omega) (by omega) (by omega)⟩
end Only

/-- The row of bools T in block b. -/
def BRow (w : World) (b n : Nat) (T : Nat → Bool) : Prop := w.rowIs b 4 n (fun j => .bool (T j))
theorem BRow.cell {w : World} {b n : Nat} {T : Nat → Bool} (h : BRow w b n T) {j : Nat} (hj : j < n) : w.cell? ⟨b, j, Option.none⟩ = some (.bool (T j)) := World.rowIs.cell h hj
theorem BRow.frozen {w : World} {b n : Nat} {T : Nat → Bool} (h : BRow w b n T) (j : Nat) : w.frozen? ⟨b, j, Option.none⟩ = false := World.rowIs.frozen h j
theorem BRow.congr {w : World} {b n : Nat} {T T' : Nat → Bool} (h : BRow w b n T) (e : ∀ j, j < n → T j = T' j) : BRow w b n T' := World.rowIs.congr h (fun i hi => by rw [e i hi])
theorem BRow.lt {w : World} {b n : Nat} {T : Nat → Bool} (h : BRow w b n T) : b < w.heap.size := World.rowIs.lt h
/-- The store of x at i. -/
def upd (T : Nat → Bool) (i : Nat) (x : Bool) : Nat → Bool := fun j => if j = i then x else T j
theorem BRow.set {w : World} {b n : Nat} {T : Nat → Bool} (h : BRow w b n T) (i : Nat) (x : Bool) : BRow (w.setCell ⟨b, i, Option.none⟩ (.bool x)) b n (upd T i x) :=
  World.rowIs.congr (World.rowIs.set h i (.bool x)) (fun j _ => by unfold upd; split <;> rfl)
theorem BRow.setMark {w : World} {b n : Nat} {T : Nat → Bool} (h : BRow w b n T) (i : Nat) : BRow (w.setCell ⟨b, i, Option.none⟩ (.bool true)) b n (mark T i) := h.set i true
theorem BRow.setOther {w : World} {b n : Nat} {T : Nat → Bool} (h : BRow w b n T) {a : Addr} (ha : b ≠ a.block) (v : Value) : BRow (w.setCell a v) b n T := World.rowIs.setOther h ha v
theorem BRow.drewN {w : World} {b n : Nat} {T : Nat → Bool} (h : BRow w b n T) (q : Nat) : BRow (w.drewN q) b n T := h
theorem BRow.alloc {w : World} {b n : Nat} {T : Nat → Bool} (h : BRow w b n T) (o : Obj) : BRow (w.alloc o) b n T := World.rowIs.alloc h o
theorem BRow.only {w w' : World} {b b1 b2 n : Nat} {T : Nat → Bool} (h : BRow w b n T) (ho : Only b1 b2 w w') (h1 : b ≠ b1) (h2 : b ≠ b2) : BRow w' b n T := ho.row h h1 h2

/-- WHAT A put LEAVES: nothing turned where the point's membership is as asked; else the point is set, and its leaf's path is marked. -/
def PutPost (w : World) (bi bs n m : Nat) (I St : Nat → Bool) (i leaf : Nat) (on : Bool) (w' : World) : Prop :=
  Only bi bs w w' ∧ ∃ T, BRow w' bs m T ∧ ((I i = on ∧ BRow w' bi n I ∧ T = St) ∨ (I i ≠ on ∧ BRow w' bi n (upd I i on) ∧ Marked St leaf m T))

set_option maxHeartbeats 400000 in
theorem model_keep (bi bs ba n m : Nat) (I St : Nat → Bool) (lv : Int) (i : Nat) (leaf : Nat) (w : World) (_hn : n ≤ 65536) (hi : i < n) (hI : BRow w bi n I) (hS : BRow w bs m St) :
    Calls Try.prog 22 #[.slice (some ⟨bi, 0, Option.none⟩) n n, .slice (some ⟨bs, 0, Option.none⟩) m m, .slice (some ⟨ba, 0, Option.none⟩) n n, .int .i64 lv, .int .i64 i, .bool (I i)] w fun e w' => e = .returned (.tuple #[]) ∧ PutPost w bi bs n m I St i leaf (I i) w' := by
  have ci := hI.cell hi
  have hi' : (i : Int) < (n : Int) := by omega
  go_enter Try.func22, Try.ntmps22
  go_wp2
  exact bodyPost_ret (results_none Try.results22 _ _ _) rfl ⟨rfl, Only.refl _ _ _, St, hS, .inl ⟨rfl, hI, rfl⟩⟩

theorem onPath_i (l : Int) (leaf k : Nat) (hl : l = (leaf : Int)) (hk : 1 ≤ k) (hl' : leaf ≤ 1000000) (hk' : k ≤ 1000000) (w : World) :
    Calls Try.prog 37 #[.int .i64 l, .int .i64 k] w fun e w' => RetIf (Anc leaf k) e ∧ w' = w := by
  subst hl; exact onPath_any leaf k hk hl' hk' w

set_option maxHeartbeats 400000 in
theorem model_turn (bi bs ba n m : Nat) (I St : Nat → Bool) (lv : Nat) (i ai : Nat) (on : Bool) (w : World) (_hn : n ≤ 65536) (hi : i < n) (hlv : lv ≤ 65536) (hm : m = 2 * lv) (hai : ai < 8 * lv) (hne : I i ≠ on)
    (hI : BRow w bi n I) (hS : BRow w bs m St) (ha : w.cell? ⟨ba, i, Option.none⟩ = some (.int .i64 (ai : Int))) (h12 : bi ≠ bs) (h1a : ba ≠ bi) :
    Calls Try.prog 22 #[.slice (some ⟨bi, 0, Option.none⟩) n n, .slice (some ⟨bs, 0, Option.none⟩) m m, .slice (some ⟨ba, 0, Option.none⟩) n n, .int .i64 lv, .int .i64 i, .bool on] w fun e w' => e = .returned (.tuple #[]) ∧ PutPost w bi bs n m I St i (lv + ai / 8) on w' := by
  have ci := hI.cell hi
  have fi := hI.frozen i
  have hi' : (i : Int) < (n : Int) := by omega
  have hb : (I i == on) = false := by simpa using hne
  have hO : Hid (Only bi bs w (w.setCell ⟨bi, i, Option.none⟩ (.bool on))) := (Only.refl bi bs w).set1 i _
  have hI1 : Hid (BRow (w.setCell ⟨bi, i, Option.none⟩ (.bool on)) bi n (upd I i on)) := hI.set i on
  have hS1 : Hid (BRow (w.setCell ⟨bi, i, Option.none⟩ (.bool on)) bs m St) := hS.setOther (Ne.symm h12) _
  have HM : Hid (m = 2 * lv) := hm
  have hm1 : m ≤ 131072 := by omega
  have HNE : Hid (I i ≠ on) := hne
  clear hI hS hm hne
  go_enter Try.func22, Try.ntmps22
  go_wp2
  go_loopw [13] (fun t wr => ∃ (c : Nat) (T : Nat → Bool), 1 ≤ c ∧ c ≤ m ∧ t = .int .i64 c ∧ BRow wr bs m T ∧ BRow wr bi n (upd I i on) ∧ Only bi bs w wr ∧ Hid (MarkUp St (lv + ai / 8) c T)) (fun t _ => m - (intOf t).toNat)
  case atStart => exact ⟨1, St, Nat.le_refl _, by have := HM.out; omega, rfl, hS1.out, hI1.out, hO.out, markUp_start _ _⟩
  case round =>
    obtain ⟨c, T, hc1, hcm, rfl, hT, hI2, hO2, HU⟩ := hrel
    have HT : Hid (BRow wr bs m T) := hT
    have HI2 : Hid (BRow wr bi n (upd I i on)) := hI2
    have HO2 : Hid (Only bi bs w wr) := hO2
    by_cases hlt : c < m
    · have hlt' : (c : Int) < (m : Int) := by omega
      have cc := hT.cell hlt
      have fc := hT.frozen c
      clear hT hI2 hO2
      go_wp2_with fail
      refine (onPath_i _ (lv + ai / 8) c (by omega) hc1 (by omega) (by omega) _).mono ?_
      rintro e w' ⟨⟨r, rfl, hr⟩, rfl⟩
      cases r
      · have HR : Hid (¬ Anc (lv + ai / 8) c) := fun h => by have := hr.2 h; cases this
        clear hr
        go_wp2_with fail
        go_roundw
        case rel => exact ⟨c + 1, T, by omega, by omega, by go_num, HT.out, HI2.out, HO2.out, markUp_no HU.out HR.out⟩
        case measure => simp [intOf]; omega
      · have HR : Hid (Anc (lv + ai / 8) c) := hr.1 rfl
        clear hr
        go_wp2_with fail
        go_roundw
        case rel => exact ⟨c + 1, mark T c, by omega, by omega, by go_num, HT.out.setMark c, HI2.out.setOther h12 _, HO2.out.set2 c _, markUp_yes HU.out hc1 HR.out⟩
        case measure => simp [intOf]; omega
    · have hlt' : ¬ (c : Int) < (m : Int) := by omega
      clear hT hI2 hO2
      obtain rfl : c = m := by omega
      go_wp2_with fail
      go_end0
      exact ⟨rfl, HO2.out, T, HT.out, .inr ⟨HNE.out, HI2.out, markUp_end HU.out⟩⟩

/-! ### (*hullTree).put -/
/-- The tree's box at block H. -/
def TreeBox (w : World) (H : Nat) (n m : Nat) (bi bs ba : Nat) (lv : Int) : Prop :=
  w.cell? ⟨H, 2, Option.none⟩ = some (.slice (some ⟨ba, 0, Option.none⟩) n n) ∧ w.cell? ⟨H, 3, Option.none⟩ = some (.int .i64 lv) ∧
    w.cell? ⟨H, 4, Option.none⟩ = some (.slice (some ⟨bi, 0, Option.none⟩) n n) ∧ w.cell? ⟨H, 6, Option.none⟩ = some (.slice (some ⟨bs, 0, Option.none⟩) m m)

set_option maxHeartbeats 400000 in
theorem put_keep (H bi bs ba n m : Nat) (I St : Nat → Bool) (lv : Int) (i : Nat) (leaf : Nat) (w : World) (_hn : n ≤ 65536) (hi : i < n) (hbox : TreeBox w H n m bi bs ba lv) (hI : BRow w bi n I) (hS : BRow w bs m St) :
    Calls Try.prog 38 #[.pointer (some ⟨H, 0, Option.none⟩), .int .i64 i, .bool (I i)] w fun e w' => e = .returned (.tuple #[]) ∧ PutPost w bi bs n m I St i leaf (I i) w' := by
  obtain ⟨_, _, h4, _⟩ := hbox
  have ci := hI.cell hi
  have hi' : (i : Int) < (n : Int) := by omega
  go_enter Try.func38, Try.ntmps38
  go_wp2
  exact bodyPost_ret (results_none Try.results38 _ _ _) rfl ⟨rfl, Only.refl _ _ _, St, hS, .inl ⟨rfl, hI, rfl⟩⟩

set_option maxHeartbeats 400000 in
theorem put_turn (H bi bs ba n m : Nat) (I St : Nat → Bool) (lv : Nat) (i ai : Nat) (on : Bool) (w : World) (_hn : n ≤ 65536) (hi : i < n) (hlv : lv ≤ 65536) (hm : m = 2 * lv) (hai : ai < 8 * lv) (hne : I i ≠ on)
    (hbox : TreeBox w H n m bi bs ba lv) (hI : BRow w bi n I) (hS : BRow w bs m St) (ha : w.cell? ⟨ba, i, Option.none⟩ = some (.int .i64 (ai : Int))) (h12 : bi ≠ bs) (h1a : ba ≠ bi) (hH1 : H ≠ bi) (hH2 : H ≠ bs) (hcl : Closed St m) :
    Calls Try.prog 38 #[.pointer (some ⟨H, 0, Option.none⟩), .int .i64 i, .bool on] w fun e w' => e = .returned (.tuple #[]) ∧ PutPost w bi bs n m I St i (lv + ai / 8) on w' := by
  obtain ⟨x2, x3, x4, x6⟩ := hbox
  have ci := hI.cell hi
  have fi := hI.frozen i
  have hi' : (i : Int) < (n : Int) := by omega
  have hb : (I i == on) = false := by simpa using hne
  have hHlt : H < w.heap.size := World.block_lt_of_cell? w _ x6
  have hO : Hid (Only bi bs w (w.setCell ⟨bi, i, Option.none⟩ (.bool on))) := (Only.refl bi bs w).set1 i _
  have hI1 : Hid (BRow (w.setCell ⟨bi, i, Option.none⟩ (.bool on)) bi n (upd I i on)) := hI.set i on
  have hS1 : Hid (BRow (w.setCell ⟨bi, i, Option.none⟩ (.bool on)) bs m St) := hS.setOther (Ne.symm h12) _
  have HM : Hid (m = 2 * lv) := hm
  have hm1 : m ≤ 131072 := by omega
  have HNE : Hid (I i ≠ on) := hne
  have HCL : Hid (Closed St m) := hcl
  clear hI hS hm hne hcl
  go_enter Try.func38, Try.ntmps38
  go_wp2
  go_quiet (fail)
  go_wp2
  go_loopw [6] (fun t wr => ∃ (k : Nat) (T : Nat → Bool), k < m ∧ t = .int .i64 k ∧ BRow wr bs m T ∧ BRow wr bi n (upd I i on) ∧ Only bi bs w wr ∧ Hid (MarkTo St (lv + ai / 8) k T)) (fun t _ => (intOf t).toNat)
  case atStart => exact ⟨lv + ai / 8, St, by have := HM.out; omega, by go_num, hS1.out.drewN _, hI1.out.drewN _, hO.out.drewN _, markTo_start _ _⟩
  case round =>
    obtain ⟨k, T, hkm, rfl, hT, hI2, hO2, HU⟩ := hrel
    have HT : Hid (BRow wr bs m T) := hT
    have HI2 : Hid (BRow wr bi n (upd I i on)) := hI2
    have HO2 : Hid (Only bi bs w wr) := hO2
    have y6 : wr.cell? ⟨H, 6, Option.none⟩ = some (.slice (some ⟨bs, 0, Option.none⟩) m m) := (hO2.cell (p := ⟨H, 6, Option.none⟩) hHlt hH1 hH2).trans x6
    have cc := hT.cell hkm
    have fc := hT.frozen k
    have hkm' : (k : Int) < (m : Int) := by omega
    clear hT hI2 hO2
    by_cases hk0 : k = 0
    · subst hk0
      go_wp2_with fail
      go_end0
      exact ⟨rfl, HO2.out, T, HT.out, .inr ⟨HNE.out, HI2.out, markTo_top HU.out⟩⟩
    · have hk1 : 1 ≤ (k : Int) := by omega
      cases e1 : T k
      · rw [e1] at cc
        go_wp2_with fail
        go_roundw
        case rel => exact ⟨k / 2, mark T k, by omega, by go_num, HT.out.setMark k, HI2.out.setOther h12 _, HO2.out.set2 k _, markTo_step HU.out (by omega)⟩
        case measure => simp [intOf]; omega
      · have HE : Hid (T k = true) := e1
        rw [e1] at cc
        clear e1
        go_wp2_with fail
        go_end0
        exact ⟨rfl, HO2.out, T, HT.out, .inr ⟨HNE.out, HI2.out, markTo_stop HU.out HCL.out hkm HE.out⟩⟩

/-! ### The two together, for whatever membership is asked -/
theorem model_any (bi bs ba n m : Nat) (I St : Nat → Bool) (lv : Nat) (i ai : Nat) (on : Bool) (w : World) (hn : n ≤ 65536) (hi : i < n) (hlv : lv ≤ 65536) (hm : m = 2 * lv) (hai : ai < 8 * lv)
    (hI : BRow w bi n I) (hS : BRow w bs m St) (ha : w.cell? ⟨ba, i, Option.none⟩ = some (.int .i64 (ai : Int))) (h12 : bi ≠ bs) (h1a : ba ≠ bi) :
    Calls Try.prog 22 #[.slice (some ⟨bi, 0, Option.none⟩) n n, .slice (some ⟨bs, 0, Option.none⟩) m m, .slice (some ⟨ba, 0, Option.none⟩) n n, .int .i64 lv, .int .i64 i, .bool on] w fun e w' => e = .returned (.tuple #[]) ∧ PutPost w bi bs n m I St i (lv + ai / 8) on w' := by
  by_cases he : I i = on
  · subst he; exact model_keep bi bs ba n m I St lv i _ w hn hi hI hS
  · exact model_turn bi bs ba n m I St lv i ai on w hn hi hlv hm hai he hI hS ha h12 h1a

theorem put_any (H bi bs ba n m : Nat) (I St : Nat → Bool) (lv : Nat) (i ai : Nat) (on : Bool) (w : World) (hn : n ≤ 65536) (hi : i < n) (hlv : lv ≤ 65536) (hm : m = 2 * lv) (hai : ai < 8 * lv)
    (hbox : TreeBox w H n m bi bs ba lv) (hI : BRow w bi n I) (hS : BRow w bs m St) (ha : w.cell? ⟨ba, i, Option.none⟩ = some (.int .i64 (ai : Int))) (h12 : bi ≠ bs) (h1a : ba ≠ bi) (hH1 : H ≠ bi) (hH2 : H ≠ bs) (hcl : Closed St m) :
    Calls Try.prog 38 #[.pointer (some ⟨H, 0, Option.none⟩), .int .i64 i, .bool on] w fun e w' => e = .returned (.tuple #[]) ∧ PutPost w bi bs n m I St i (lv + ai / 8) on w' := by
  by_cases he : I i = on
  · subst he; exact put_keep H bi bs ba n m I St lv i _ w hn hi hbox hI hS
  · exact put_turn H bi bs ba n m I St lv i ai on w hn hi hlv hm hai he hbox hI hS ha h12 h1a hH1 hH2 hcl

theorem treeBox_new (w : World) (bi bs ba n m lv : Nat) : TreeBox (w.alloc (.cells #[.slice Option.none 0 0, .slice Option.none 0 0, .slice (some ⟨ba, 0, Option.none⟩) n n, .int .i64 lv, .slice (some ⟨bi, 0, Option.none⟩) n n, .slice Option.none 0 0, .slice (some ⟨bs, 0, Option.none⟩) m m, .slice Option.none 0 0] 77)) w.heap.size n m bi bs ba lv := by
  refine ⟨?_, ?_, ?_, ?_⟩ <;> simp
theorem PutPost.of_alloc {w w' : World} {o : Obj} {bi bs n m : Nat} {I St : Nat → Bool} {i leaf : Nat} {on : Bool} (h : PutPost (w.alloc o) bi bs n m I St i leaf on w') : PutPost w bi bs n m I St i leaf on w' :=
  ⟨((Only.refl bi bs w).alloc o).trans h.1, h.2⟩

set_option maxHeartbeats 400000 in
theorem zzPut_any (bi bs ba n m : Nat) (I St : Nat → Bool) (lv : Nat) (i ai : Nat) (on : Bool) (w : World) (hn : n ≤ 65536) (hi : i < n) (hlv : lv ≤ 65536) (hm : m = 2 * lv) (hai : ai < 8 * lv)
    (hI : BRow w bi n I) (hS : BRow w bs m St) (ha : w.cell? ⟨ba, i, Option.none⟩ = some (.int .i64 (ai : Int))) (h12 : bi ≠ bs) (h1a : ba ≠ bi) (hcl : Closed St m) :
    Calls Try.prog 23 #[.slice (some ⟨bi, 0, Option.none⟩) n n, .slice (some ⟨ba, 0, Option.none⟩) n n, .int .i64 lv, .slice (some ⟨bs, 0, Option.none⟩) m m, .int .i64 i, .bool on] w fun e w' => e = .returned (.tuple #[]) ∧ PutPost w bi bs n m I St i (lv + ai / 8) on w' := by
  have hbi := hI.lt
  have hbs := hS.lt
  have hba : ba < w.heap.size := World.block_lt_of_cell? w _ ha
  have HI : Hid (BRow w bi n I) := hI
  have HS : Hid (BRow w bs m St) := hS
  have HM : Hid (m = 2 * lv) := hm
  have HA : Hid (w.cell? ⟨ba, i, Option.none⟩ = some (.int .i64 (ai : Int))) := ha
  clear hI hS hm ha
  go_enter Try.func23, Try.ntmps23
  go_wp2_with fail
  refine (put_any w.heap.size bi bs ba n m I St lv i ai on _ hn hi hlv HM.out hai (treeBox_new w bi bs ba n m lv) (HI.out.alloc _) (HS.out.alloc _) ((World.cell?_alloc_past _ _ _ hba).trans HA.out) h12 h1a (by omega) (by omega) hcl).mono ?_
  rintro e w1 ⟨rfl, hpost⟩
  have HP : Hid (PutPost w bi bs n m I St i (lv + ai / 8) on w1) := hpost.of_alloc
  clear hpost
  go_wp2_with fail
  go_end0
  exact ⟨rfl, HP.out⟩

end Go.Proofs.Qxb6605989a
