/- THE CURSOR: item.first, cursor.item, cursor.next. -/
import Derived.Test.Qxb6615153aCur
namespace Go.Proofs.Qxb6615153a.Nk
open Go.RowKit
set_option linter.unusedVariables false

theorem cell_alloc_old {w : World} {a : Addr} {v : Value} (h : w.cell? a = some v) (o : Obj) : (w.alloc o).cell? a = some v := by
  rw [World.cell?_of_block (w := w) (Below.heap_alloc _ _ _ (World.block_lt_of_cell? _ _ h))]; exact h

set_option maxHeartbeats 1600000 in
theorem first_any (it rb : Nat) (at_ idx : Int) (w : World) (h : Item w it rb at_ idx) : Calls Try.prog 51 #[ptr it] w fun e w' => e = .returned (.agg #[ptr rb, .int .i32 at_]) ∧ Below w.heap.size w w' := by
  have c0 := fun o => cell_alloc_old h.run o
  have c1 := fun o => cell_alloc_old h.place o
  go_enter Try.func51, Try.ntmps51
  simp only [ptr]
  go_wp2
  go_region
  all_goals (clear c0 c1; go_wp2; refine bodyPost_ret (v := .agg #[ptr rb, .int .i32 at_]) (by simp [results, go_sem, ptr]) rfl ⟨rfl, ((Below.refl _ _).alloc (Nat.le_refl _) _).drew⟩)

set_option maxHeartbeats 1600000 in
theorem next_any (nd n i : Nat) (mk mc : Nat) (iv : Value) (nx : Option Addr) (w : World) (h : Node w nd (.slice (some ⟨mk, 0, none⟩) n mc) iv (.pointer nx)) (hi : i < n) (hn : n ≤ 128) : Calls Try.prog 49 #[.agg #[ptr nd, .int .i64 i]] w fun e w' => e = .returned (.agg (if i + 1 = n then #[.pointer nx, .int .i64 0] else #[ptr nd, .int .i64 (i + 1 : Nat)])) ∧ Below w.heap.size w w' := by
  have c0 := fun o o2 => cell_alloc_old (cell_alloc_old h.marks o) o2
  have c1 := fun o o2 => cell_alloc_old (cell_alloc_old h.next o) o2
  by_cases he : i + 1 = n
  · have he' : (i : Int) + 1 = (n : Int) := by omega
    go_enter Try.func49, Try.ntmps49
    simp only [ptr]
    go_wp2
    go_region
    all_goals (clear c0; go_wp2)
    all_goals (refine bodyPost_ret (v := .agg #[.pointer nx, .int .i64 0]) (by simp [results, go_sem]) rfl ⟨rfl, (((Below.refl _ _).alloc (Nat.le_refl _) _).alloc (by simp) _).drew⟩)
  · have he' : ¬ (i : Int) + 1 = (n : Int) := by omega
    go_enter Try.func49, Try.ntmps49
    simp only [ptr]
    go_wp2
    go_region
    all_goals (clear c0 c1; go_wp2)
    all_goals (refine bodyPost_ret (v := .agg #[ptr nd, .int .i64 (i + 1)]) (by simp [results, go_sem, ptr]) rfl ⟨rfl, (((Below.refl _ _).alloc (Nat.le_refl _) _).alloc (by simp) _).drew⟩)

/-- The item's hint is as it should be: to set it anew is to leave it. -/
theorem below_set_same {w w' : World} {B q rb : Nat} {at_ i : Int} (h : Item w q rb at_ i) (hb : Below B w w') : Below B (w.setCell ⟨q, 5, none⟩ (.int .i32 i)) w' := by
  have h2 := h.setIdx i
  refine ⟨hb.os, hb.tape, hb.output, by simpa [World.setCell] using hb.size, fun k hk => ?_⟩
  by_cases e : k = q
  · subst e
    rw [hb.block k hk]
    exact (Eq.trans h (Eq.symm h2))
  · rw [Below.heap_setCell _ _ _ _ e]; exact hb.block k hk

theorem below_set_set {w w' : World} {B q rb : Nat} {at_ i : Int} (h : Item w q rb at_ i) (hb : Below B w w') (v : Value) (hq : q < B) : Below B (w.setCell ⟨q, 5, none⟩ v) (w'.setCell ⟨q, 5, none⟩ v) := by
  refine ⟨hb.os, hb.tape, hb.output, by simpa [World.setCell] using hb.size, fun k hk => ?_⟩
  by_cases e : k = q
  · subst e
    rw [setCell_block h 5 v]
    exact setCell_block ((hb.block k hk).trans h) 5 v
  · rw [Below.heap_setCell _ _ _ _ e, Below.heap_setCell _ _ _ _ e]; exact hb.block k hk

set_option maxHeartbeats 1600000 in
theorem item_any (nd mk mc ib ic n i s rb : Nat) (M : Nat → Int) (it : Nat → Nat) (nx : Value) (at_ idx : Int) (w : World) (h1 : Node w nd (.slice (some ⟨mk, 0, none⟩) n mc) (.slice (some ⟨ib, 0, none⟩) n ic) nx)
    (h2 : Own w mk 132 n (fun i => .int .u32 (M i))) (h3 : Own w ib 94 n (fun s => ptr (it s))) (hi : i < n) (hn : n ≤ 128) (hm : 0 ≤ M i ∧ M i ≤ 4294967295) (hs : M i / 16777216 = (s : Int)) (hsn : s < n) (h4 : Item w (it s) rb at_ idx) :
    Calls Try.prog 50 #[.agg #[ptr nd, .int .i64 i]] w fun e w' => e = .returned (ptr (it s)) ∧ Below w.heap.size (w.setCell ⟨it s, 5, none⟩ (.int .i32 i)) w' := by
  go_enter Try.func50, Try.ntmps50
  simp only [ptr]
  go_wp2_with fail
  have hk := keep_below ((Below.refl w.heap.size w).alloc (Nat.le_refl _) (.cells #[.pointer (some ⟨nd, 0, none⟩), .int .i64 i] 114))
  refine (nodeItem_any nd mk mc ib ic n i s M it nx _ (h1.of_block (hk _ _ _ h1 (.inl rfl))) (h2.keep hk (.inr (.inl rfl))) (h3.keep hk (.inr (.inr (.inl rfl)))) hi hm hs hsn).mono ?_
  rintro e w' ⟨rfl, he, hb⟩
  have hit : Item w' (it s) rb at_ idx := by
    unfold Item
    rw [he, hk _ _ _ h4 (.inr (.inr (.inr rfl)))]
    exact h4
  have hbox : Own w' w.heap.size 114 2 (fun j => if j = 0 then .pointer (some ⟨nd, 0, none⟩) else .int .i64 i) := by
    refine ⟨#[.pointer (some ⟨nd, 0, none⟩), .int .i64 i], by rw [he]; exact Go.Deep.blk_alloc_new _ _, Nat.le_refl 2, fun j hj => ?_⟩
    match j, hj with
    | 0, _ => rfl
    | 1, _ => rfl
  have hb0 : Below w.heap.size w w' := ((Below.refl w.heap.size w).alloc (Nat.le_refl _) _).trans (hb.mono (by simp))
  have c1 : w'.cell? ⟨w.heap.size, 1, none⟩ = some (.int .i64 i) := hbox.cell (i := 1) (by decide)
  have c2 := hit.hint
  have c3 := hit.frozen 5
  have hq : it s ≠ w.heap.size := Nat.ne_of_lt h4.lt
  have hw1 : IntKind.i32.wrap (i : Int) = (i : Int) := IntWalk.i32_in _ (by omega)
  have HH : Hid (Below w.heap.size w w') := hb0
  have H4 : Hid (Item w (it s) rb at_ idx) := h4
  clear hk he hb hb0 hbox hit h1 h2 h3 h4
  simp only [ptr]
  by_cases hx : idx = (i : Int)
  · subst hx
    go_wp2
    go_region
    all_goals (clear c1 c2 c3; go_wp2; go_ret; exact ⟨rfl, below_set_same H4.out HH.out.drew⟩)
  · go_wp2
    go_region
    all_goals (go_wp2; go_ret; refine ⟨rfl, ?_⟩)
    all_goals exact below_set_set H4.out HH.out.drew _ H4.out.lt
end Go.Proofs.Qxb6615153a.Nk
