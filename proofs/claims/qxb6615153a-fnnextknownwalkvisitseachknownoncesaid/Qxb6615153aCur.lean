/- THE CURSOR: slot, node.item, cursor.item, cursor.next, item.first. -/
import Derived.Test.Qxb6615153aBWalk
namespace Go.Proofs.Qxb6615153a.Nk
open Go.RowKit
set_option linter.unusedVariables false

/-- The world's memory is as it was. -/
def Same (w w' : World) : Prop := w'.heap = w.heap ∧ Below w.heap.size w w'

theorem slot_any (m : Int) (w : World) (hm : 0 ≤ m ∧ m ≤ 4294967295) : Calls Try.prog 53 #[.int .u32 m] w fun e w' => e = .returned (.int .i64 (m / 16777216)) ∧ w = w' := by
  go_enter Try.func53, Try.ntmps53
  go_wp2
  go_ret
  exact ⟨rfl, rfl⟩

set_option maxHeartbeats 1600000 in
theorem nodeItem_any (nd mk mc ib ic n i s : Nat) (M : Nat → Int) (it : Nat → Nat) (nx : Value) (w : World) (h1 : Node w nd (.slice (some ⟨mk, 0, none⟩) n mc) (.slice (some ⟨ib, 0, none⟩) n ic) nx)
    (h2 : Own w mk 132 n (fun i => .int .u32 (M i))) (h3 : Own w ib 94 n (fun s => ptr (it s))) (hi : i < n) (hm : 0 ≤ M i ∧ M i ≤ 4294967295) (hs : M i / 16777216 = (s : Int)) (hsn : s < n) :
    Calls Try.prog 52 #[.pointer (some ⟨nd, 0, none⟩), .int .i64 i] w fun e w' => e = .returned (ptr (it s)) ∧ Same w w' := by
  have c0 := h1.marks
  have c1 := h1.items
  have c2 := h2.cell hi
  have c3 := h3.cell hsn
  have hs' : 0 ≤ M i / 16777216 ∧ M i / 16777216 < (n : Int) := by omega
  have hi' : (i : Int) < (n : Int) := by omega
  go_enter Try.func52, Try.ntmps52
  go_wp2
  simp only [ptr] at c3
  go_region_with (go_at_call 53; refine (slot_any _ _ hm).mono ?_; rintro e w' ⟨rfl, rfl⟩; rw [hs])
  all_goals (clear c0 c1 c2 c3; go_wp2; go_ret; exact ⟨rfl, rfl, (Below.refl _ _).drew⟩)
end Go.Proofs.Qxb6615153a.Nk
