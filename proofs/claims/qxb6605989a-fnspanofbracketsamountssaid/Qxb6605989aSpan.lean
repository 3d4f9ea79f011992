/-
  THE WALKS of (*oneResource).spanOf and ZZspanOf.
-/
import Derived.Test.Qxb6605989aPast
import Derived.Deep.RegionHeld3
namespace Go.Proofs.Qxb6605989a
open Go.RowKit

/-- What the span's two calls give, told once for whatever ladder: f x is the place past x. -/
def PastOf (w : World) (L : Nat) (f : Int → Int) : Prop :=
  ∀ (x : Int) (W : World), W.heap = w.heap → I64 x → Calls Try.prog 41 #[.pointer (some ⟨L, 0, Option.none⟩), .int .i64 x] W fun e w' => e = .returned (.int .i64 (f x)) ∧ ∃ k, w' = W.drewN k

set_option maxHeartbeats 400000 in
theorem span_any (O L : Nat) (f : Int → Int) (lo hi : Int) (w : World) (hO : w.cell? ⟨O, 2, Option.none⟩ = some (.pointer (some ⟨L, 0, Option.none⟩)))
    (hlo : I64 lo) (hhi : I64 hi) (hp : PastOf (w.alloc (.cells #[.int .i64 0, .int .i64 0] 71)) L f) :
    Calls Try.prog 36 #[.pointer (some ⟨O, 0, Option.none⟩), .int .i64 lo, .int .i64 hi] w fun e w' => e = .returned (.agg #[.int .i64 (f lo), .int .i64 (f hi)]) ∧ Below w.heap.size w w' := by
  have hlt := World.block_lt_of_cell? w _ hO
  have hO' := World.new_ne w _ hO
  have HP : Hid (PastOf (w.alloc (.cells #[.int .i64 0, .int .i64 0] 71)) L f) := hp
  clear hp
  go_enter Try.func36, Try.ntmps36
  go_wp2
  go_region_held3 (fun w' => w'.cell? ⟨O, 2, Option.none⟩ = some (.pointer (some ⟨L, 0, Option.none⟩))) (go_keep) ((go_at_call 41; refine (HP.out _ _ (by rfl) (by assumption)).mono ?_; rintro e w' ⟨rfl, k, rfl⟩))
  go_wp2
  refine bodyPost_ret (v := .agg #[.int .i64 (f lo), .int .i64 (f hi)]) (by simp [results, Try.results36, go_sem]) rfl ⟨rfl, ?_⟩
  exact ((below_drewN ((Below.refl _ w).alloc (Nat.le_refl _) _) _).setCell (Nat.le_refl _) _).setCell (Nat.le_refl _) _

theorem ladBox_new (w : World) (am st : Value) (sh : Int) (o1 o2 : Obj) : LadBox (((w.alloc (.cells #[.int .i64 0, am, .slice Option.none 0 0, st, .int .u64 sh, .slice Option.none 0 0] 60)).alloc o1).alloc o2) w.heap.size am st sh := by
  refine ⟨?_, ?_, ?_⟩ <;>
  · rw [World.cell?_alloc_past _ _ _ (by simp; omega), World.cell?_alloc_past _ _ _ (by simp)]
    simp

theorem oneBox_new (w : World) (o : Obj) (v0 v1 v2 v3 v4 v5 v6 v7 v8 v9 : Value) : ((w.alloc o).alloc (.cells #[v0, v1, v2, v3, v4, v5, v6, v7, v8, v9] 69)).cell? ⟨w.heap.size + 1, 2, Option.none⟩ = some v2 := by
  rw [World.cell?_alloc_at _ _ _ _ (by simp)]
  rfl

set_option maxHeartbeats 400000 in
theorem zzSpan_any (aa sa : Option Addr) (n ac m sc : Nat) (sh lo hi : Int) (f : Int → Int) (w : World) (hlo : I64 lo) (hhi : I64 hi)
    (hp : ∀ W : World, Below w.heap.size w W → LadBox W w.heap.size (.slice aa n ac) (.slice sa m sc) sh → PastOf W w.heap.size f) :
    Calls Try.prog 13 #[.slice aa n ac, .slice sa m sc, .int .u64 sh, .int .i64 lo, .int .i64 hi] w fun e w' => e = .returned (.tuple #[.int .i64 (f lo), .int .i64 (f hi)]) ∧ Below w.heap.size w w' := by
  have HP : Hid (∀ W : World, Below w.heap.size w W → LadBox W w.heap.size (.slice aa n ac) (.slice sa m sc) sh → PastOf W w.heap.size f) := hp
  clear hp
  go_enter Try.func13, Try.ntmps13
  go_wp2_with fail
  refine (span_any (w.heap.size + 1) w.heap.size f lo hi _ (oneBox_new w _ _ _ _ _ _ _ _ _ _ _) hlo hhi (HP.out _ ((((Below.refl _ w).alloc (Nat.le_refl _) _).alloc (by simp) _).alloc (by simp; omega) _) (ladBox_new w _ _ _ _ _))).mono ?_
  rintro e w1 ⟨rfl, hb⟩
  go_wp2_with fail
  go_quiet (fail)
  go_wp2_with fail
  go_ret2
  have hsz := hb.size
  simp at hsz
  refine ⟨rfl, below_drewN (((((Below.refl _ w).alloc (Nat.le_refl _) _).alloc (by simp) _).trans (hb.mono (by simp; omega))).alloc (by omega) _) _⟩

end Go.Proofs.Qxb6605989a
