/-
  THE WALKS of (*Encrypted).appendBody, Body, ZZEncryptedBody.
-/
import Derived.Test.Qxb6605924aClone
import Derived.Deep.AppendLies
import Derived.BigQuiet
namespace Go.Proofs.Qxb6605924a
open Go.RowKit

theorem addz (b j : Nat) : (⟨b, 0, Option.none⟩ : Addr).add j = ⟨b, j, Option.none⟩ := by unfold Addr.add; split <;> simp_all

/-- The elements of the copy, as cells. -/
def cellsU8 (zs : List Int) (len : Nat) : List Value := (List.range len).map fun j => .int .u8 (zs.getD j 0)
theorem cellsU8_length (zs : List Int) (len : Nat) : (cellsU8 zs len).length = len := by simp [cellsU8]
theorem cellsU8_get (zs : List Int) (len j : Nat) (h : j < len) : (cellsU8 zs len)[j]? = some (.int .u8 (zs.getD j 0)) := by simp [cellsU8, h]

/-- What the row of an append onto nil gives, cell by cell. -/
theorem own_cells {w : World} {base g len cap : Nat} {zs : List Int} (h : w.ownsRow base 5 1 (.slice (some ⟨g, 0, Option.none⟩) (0 + len) cap) (0 + len) ([] ++ cellsU8 zs len)) (hl : 0 < len) :
    (∀ j, j < len → w.cell? ⟨g, j, Option.none⟩ = some (.int .u8 (zs.getD j 0))) ∧ ∀ j, w.frozen? ⟨g, j, Option.none⟩ = false := by
  rcases h.2 with ⟨_, h0⟩ | ⟨g', cap', cur, hv, _, hg, h1, _, hs, ht⟩
  · omega
  · simp at hv
    obtain ⟨rfl, _⟩ := hv
    refine ⟨fun j hj => ?_, fun j => by simp [World.frozen?, hg]⟩
    have e1 := cellsU8_get zs len j hj
    simp only [List.nil_append, Nat.zero_add, Nat.mul_one] at ht
    rw [← ht, List.getElem?_take_of_lt hj] at e1
    simp [World.cell?, hg]
    simpa using e1

set_option maxHeartbeats 400000 in
theorem appendBody_some (B b len cap : Nat) (zs : List Int) (w : World) (hl : 0 < len) (hm : len ≤ 1048576)
    (hbox : w.cell? ⟨B, 1, Option.none⟩ = some (.slice (some ⟨b, 0, Option.none⟩) len cap)) (hrow : w.rowIs b 5 len (fun j => .int .u8 (zs.getD j 0))) :
    Calls Try.prog 24 #[.pointer (some ⟨B, 0, Option.none⟩), .slice Option.none 0 0] w fun e w' => (∃ c, e = .returned (.slice (some ⟨w.heap.size, 0, Option.none⟩) len c)) ∧
      (∀ j, j < len → w'.cell? ⟨w.heap.size, j, Option.none⟩ = some (.int .u8 (zs.getD j 0))) ∧ (∀ j, w'.frozen? ⟨w.heap.size, j, Option.none⟩ = false) ∧ Below w.heap.size w w' ∧ w.heap.size < w'.heap.size := by
  obtain ⟨i0, hi, hz0, hz1, hz2⟩ := info_parts info5
  have hnews : ∀ j u, (cellsU8 zs len)[j]? = some u → w.cell? ((⟨b, 0, Option.none⟩ : Addr).add j) = some u := by
    intro j u hj
    have hlt : j < len := by
      have := (List.getElem?_eq_some_iff.1 hj).1
      rwa [cellsU8_length] at this
    rw [cellsU8_get zs len j hlt] at hj
    rw [← hj]
    rw [addz]
    exact hrow.cell hlt
  have hone : ∀ u ∈ cellsU8 zs len, u.oneCell' = true := by
    intro u hu
    simp only [cellsU8, List.mem_map] at hu
    obtain ⟨_, _, rfl⟩ := hu
    rfl
  have HN : Hid _ := hnews
  have HO : Hid _ := hone
  have HR : Hid _ := hrow
  clear hnews hone hrow
  go_enter Try.func24, Try.ntmps24
  go_wp2_with (at_builtin; refine wpList_append_lies _ rfl _ _ 22 rfl w.heap.size 5 i0 (.int .u8 0) 1 1 Try.underlying22 hi hz0 hz1 hz2 rfl (by omega) (.slice Option.none 0 0) 0 [] rfl (World.ownsRow_nil _ _ _ _) ⟨b, 0, Option.none⟩ len cap (cellsU8 zs len) rfl (by rw [cellsU8_length, Nat.mul_one]) HN.out HO.out hl (by unfold maxLen; omega) (by omega) (Nat.le_refl _) w.heap.size rfl ?_; intro g c w1 hown hgrow hat hlt)
  go_ret
  have hg : g = w.heap.size := by
    rcases hat with h | h
    · simp [Value.ownBlock] at h
    · exact h
  subst hg
  obtain ⟨oc, of⟩ := own_cells hown hl
  exact ⟨⟨c, by simp⟩, oc, of, (Below.refl _ w).grown hgrow (Nat.le_refl _) (fun k hk => by simp [Value.ownBlock] at hk), hlt⟩

/-- append(nil, b...) where b has no element: nil, and nothing turns. -/
theorem run_append_zero (w : World) (b : Option Addr) (c : Nat) : (Builtin.append_ #[22, 22] 22 #[.slice Option.none 0 0, .slice b 0 c]).run Try.prog w = .ok (.slice Option.none 0 0) w := by
  cases b <;> kernel_rfl
theorem wpList_append_zero {w : World} {ops : Array Oper} {rest : List Oper} {o : Oper} {a : Act} {Q : Exit → Act → World → Prop} (hgd : o.guard = Option.none) (s x : Operand)
    (ho : o.op = .call { callee := .builtin .append, args := #[s, x], argTypes := #[22, 22] }) (hty : o.type = 22) (b : Option Addr) (c : Nat) (hs : a.eval s = .slice Option.none 0 0) (hx : a.eval x = .slice b 0 c)
    (h : wpList Try.prog ops Q rest (a.put o.dst (.slice Option.none 0 0)) w) : wpList Try.prog ops Q (o :: rest) a w := by
  refine wpList_plain hgd fun K hK => ?_
  have hr := run_append_zero w b c
  unfold Oper.wp execOp
  simp only [ho, resolve, invoke, builtin, Sem.run_bind, Sem.run_pure, Result.andThen_ok, List.map_toArray, List.map_cons, List.map_nil, hs, hx, hty, hr]
  exact hK _ _ h

set_option maxHeartbeats 400000 in
theorem appendBody_empty (B cap : Nat) (b : Option Addr) (w : World)
    (hbox : w.cell? ⟨B, 1, Option.none⟩ = some (.slice b 0 cap)) :
    Calls Try.prog 24 #[.pointer (some ⟨B, 0, Option.none⟩), .slice Option.none 0 0] w fun e w' => e = .returned (.slice Option.none 0 0) ∧ Below w.heap.size w w' := by
  go_enter Try.func24, Try.ntmps24
  go_wp2_with (at_builtin; refine wpList_append_zero rfl _ _ rfl rfl b cap rfl rfl ?_)
  go_ret
  exact ⟨rfl, Below.refl _ _⟩

/-! ### Body: the method called through the interface value. The method's name is not typed: it is read off the goal. -/
theorem upon_method {o : Oper} {a : Act} {K : Act → World → Prop} {Q : Exit → Act → World → Prop} {m : Sem (FuncId × Value)} {w : World} {f : FuncId × Value → World → Result Next} (r : FuncId × Value)
    (h : Sem.run Try.prog m w = .ok r w) (k : Oper.upon Try.prog o a K Q (f r w)) : Oper.upon Try.prog o a K Q ((Sem.run Try.prog m w).andThen f) := by
  rw [h]; exact k

set_option maxHeartbeats 400000 in
theorem body_some (B b len cap : Nat) (zs : List Int) (w : World) (hl : 0 < len) (hm : len ≤ 1048576)
    (hbox : w.cell? ⟨B, 1, Option.none⟩ = some (.slice (some ⟨b, 0, Option.none⟩) len cap)) (hrow : w.rowIs b 5 len (fun j => .int .u8 (zs.getD j 0))) :
    Calls Try.prog 7 #[.iface 25 (.pointer (some ⟨B, 0, Option.none⟩))] w fun e w' => (∃ c, e = .returned (.slice (some ⟨w.heap.size, 0, Option.none⟩) len c)) ∧
      (∀ j, j < len → w'.cell? ⟨w.heap.size, j, Option.none⟩ = some (.int .u8 (zs.getD j 0))) ∧ (∀ j, w'.frozen? ⟨w.heap.size, j, Option.none⟩ = false) ∧ Below w.heap.size w w' ∧ w.heap.size < w'.heap.size := by
  go_enter Try.func7, Try.ntmps7
  go_wp2_with fail
  refine upon_method (24, .pointer (some ⟨B, 0, Option.none⟩)) (by kernel_rfl) ?_
  go_wp2_with fail
  refine (appendBody_some B b len cap zs w hl hm hbox hrow).mono ?_
  rintro e w' ⟨⟨c, rfl⟩, h2, h3, h4, h5⟩
  have H2 : Hid (∀ j, j < len → w'.cell? ⟨w.heap.size, j, Option.none⟩ = some (.int .u8 (zs.getD j 0))) := h2
  have H3 : Hid (∀ j, w'.frozen? ⟨w.heap.size, j, Option.none⟩ = false) := h3
  clear h2 h3
  go_wp2_with fail
  go_ret
  exact ⟨⟨c, rfl⟩, H2.out, H3.out, h4, h5⟩

set_option maxHeartbeats 400000 in
theorem body_empty (B cap : Nat) (b : Option Addr) (w : World) (hbox : w.cell? ⟨B, 1, Option.none⟩ = some (.slice b 0 cap)) :
    Calls Try.prog 7 #[.iface 25 (.pointer (some ⟨B, 0, Option.none⟩))] w fun e w' => e = .returned (.slice Option.none 0 0) ∧ Below w.heap.size w w' := by
  go_enter Try.func7, Try.ntmps7
  go_wp2_with fail
  refine upon_method (24, .pointer (some ⟨B, 0, Option.none⟩)) (by kernel_rfl) ?_
  go_wp2_with fail
  refine (appendBody_empty B cap b w hbox).mono ?_
  rintro e w' ⟨rfl, hb⟩
  go_wp2_with fail
  go_ret
  exact ⟨rfl, hb⟩

/-! ### ZZEncryptedBody -/
set_option maxHeartbeats 400000 in
theorem zzBody_some (B b len cap : Nat) (zs : List Int) (w : World) (hl : 0 < len) (hm : len ≤ 1048576)
    (hbox : w.cell? ⟨B, 1, Option.none⟩ = some (.slice (some ⟨b, 0, Option.none⟩) len cap)) (hrow : w.rowIs b 5 len (fun j => .int .u8 (zs.getD j 0))) :
    Calls Try.prog 6 #[.pointer (some ⟨B, 0, Option.none⟩)] w fun e w' => (∃ c, e = .returned (.slice (some ⟨w.heap.size, 0, Option.none⟩) len c)) ∧
      (∀ j, j < len → w'.cell? ⟨w.heap.size, j, Option.none⟩ = some (.int .u8 (zs.getD j 0))) ∧ (∀ j, w'.frozen? ⟨w.heap.size, j, Option.none⟩ = false) ∧ Below w.heap.size w w' ∧ w.heap.size < w'.heap.size := by
  go_enter Try.func6, Try.ntmps6
  go_wp2_with fail
  refine (body_some B b len cap zs w hl hm hbox hrow).mono ?_
  rintro e w' ⟨⟨c, rfl⟩, h2, h3, h4, h5⟩
  have H2 : Hid (∀ j, j < len → w'.cell? ⟨w.heap.size, j, Option.none⟩ = some (.int .u8 (zs.getD j 0))) := h2
  have H3 : Hid (∀ j, w'.frozen? ⟨w.heap.size, j, Option.none⟩ = false) := h3
  clear h2 h3
  go_wp2_with fail
  go_ret
  exact ⟨⟨c, rfl⟩, H2.out, H3.out, h4, h5⟩

set_option maxHeartbeats 400000 in
theorem zzBody_empty (B cap : Nat) (b : Option Addr) (w : World) (hbox : w.cell? ⟨B, 1, Option.none⟩ = some (.slice b 0 cap)) :
    Calls Try.prog 6 #[.pointer (some ⟨B, 0, Option.none⟩)] w fun e w' => e = .returned (.slice Option.none 0 0) ∧ Below w.heap.size w w' := by
  go_enter Try.func6, Try.ntmps6
  go_wp2_with fail
  refine (body_empty B cap b w hbox).mono ?_
  rintro e w' ⟨rfl, hb⟩
  go_wp2_with fail
  go_ret
  exact ⟨rfl, hb⟩

end Go.Proofs.Qxb6605924a
