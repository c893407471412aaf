/- ZZnextKnown, leafAt. -/
import Derived.Test.Qxb6615153aNx
namespace Go.Proofs.Qxb6615153a.Nk
open Go.RowKit
set_option linter.unusedVariables false

/-- What ZZnextKnown answers from code c. -/
def ZkPost (w w' : World) (e : Ending) (rb N c : Nat) (Ln : Nat → Nat) (M : Nat → Nat → Int) (sl it : Nat → Nat → Nat) : Prop :=
  (∃ L i, L < N ∧ i < Ln L ∧ c ≤ L * 256 + i ∧ M L i % 2 = 1 ∧ NoneIn N Ln M c (L * 256 + i) ∧ e = .returned (.tuple #[.pointer (some ⟨rb, 0, none⟩), .int .i32 ((L : Int) * 256 + sl L i)]) ∧ Below w.heap.size (w.setCell ⟨it L (sl L i), 5, none⟩ (.int .i32 i)) w') ∨
  (NoneIn N Ln M c (N * 256) ∧ e = .returned (.tuple #[.pointer none, .int .i32 0]) ∧ Below w.heap.size w w')

theorem leafAt_any (nb N L : Nat) (nd : Nat → Nat) (w : World) (h : Own w nb 56 N (fun j => ptr (nd j))) (hL : L ≤ N) (hN : N ≤ 4096) :
    Calls Try.prog 31 #[.slice (some ⟨nb, 0, none⟩) N N, .int .i64 L] w fun e w' => e = .returned (.pointer (leafA nd N L)) ∧ w = w' := by
  by_cases hlt : L < N
  · have c0 : w.cell? ⟨nb, L, none⟩ = some (.pointer (some ⟨nd L, 0, none⟩)) := h.cell hlt
    have hl : (L : Int) < (N : Int) := by omega
    have hla : leafA nd N L = some ⟨nd L, 0, none⟩ := by unfold leafA; rw [if_pos hlt]
    rw [hla]
    go_enter Try.func31, Try.ntmps31
    go_wp2
    go_ret
    exact ⟨rfl, rfl⟩
  · have hla : leafA nd N L = none := by unfold leafA; rw [if_neg hlt]
    have hl : decide ((L : Int) < (N : Int)) = false := by simp; omega
    rw [hla]
    go_enter Try.func31, Try.ntmps31
    go_wp2
    go_ret
    exact ⟨rfl, rfl⟩

set_option maxHeartbeats 1600000 in
theorem zzNextKnown_any (nb lb rb N : Nat) (Ln : Nat → Nat) (M : Nat → Nat → Int) (sl : Nat → Nat → Nat) (nd its : Nat → Nat) (it : Nat → Nat → Nat) (hint : Nat → Nat → Int) (w : World) (L i : Nat)
    (hB : Built w nb lb rb N (N - 1) Ln M nd its it hint) (hF : Fit N Ln M sl) (hN : N ≤ 4096) (hat : At N Ln L i) :
    Calls Try.prog 30 #[.pointer (leafA nd N L), .int .i64 i] w fun e w' => ZkPost w w' e rb N (L * 256 + i) Ln M sl it := by
  go_enter Try.func30, Try.ntmps30
  go_wp2_with fail
  have hb0 := (Below.refl w.heap.size w).alloc (Nat.le_refl _) (.cells #[.pointer none, .int .i64 0, .int .i64 0] 109)
  refine (nextKnown_any nb lb rb N Ln M sl nd its it hint _ _ L i (hB.below hb0) hF hN hat).mono ?_
  rintro e w1 (⟨L', i', hL, hi, hle, hodd, hno, rfl, hb⟩ | ⟨hno, rfl, hb⟩)
  · have hit := (hB.leaf L' hL).items (sl L' i') (hF.slot L' hL i' hi).2
    have HB : Hid (Below w.heap.size (w.setCell ⟨it L' (sl L' i'), 5, none⟩ (.int .i32 i')) w1) := (below_set_set hit hb0 _ hit.lt).trans (hb.mono (by simp))
    have HX : Hid (L * 256 + i ≤ L' * 256 + i' ∧ M L' i' % 2 = 1 ∧ NoneIn N Ln M (L * 256 + i) (L' * 256 + i')) := ⟨hle, hodd, hno⟩
    clear hb hb0 hit hB hle hodd hno
    have hsz : w.heap.size ≤ w1.heap.size := by have := HB.out.size; simpa [World.setCell] using this
    simp only [ptr]
    go_wp2
    go_region
    all_goals (go_wp2; go_ret2)
    all_goals exact .inl ⟨L', i', hL, hi, HX.out.1, HX.out.2.1, HX.out.2.2, rfl, (HB.out.alloc hsz _).drew⟩
  · have HB : Hid (Below w.heap.size w w1) := hb0.trans (hb.mono (by simp))
    have HX : Hid (NoneIn N Ln M (L * 256 + i) (N * 256)) := hno
    clear hb hb0 hB hno
    have hsz : w.heap.size ≤ w1.heap.size := HB.out.size
    go_wp2
    go_region
    all_goals (go_wp2; go_ret2)
    all_goals exact .inr ⟨HX.out, rfl, (HB.out.alloc hsz _).drew⟩
end Go.Proofs.Qxb6615153a.Nk
