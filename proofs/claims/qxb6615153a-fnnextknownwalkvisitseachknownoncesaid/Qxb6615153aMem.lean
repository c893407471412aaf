/- THE MEMORY OF THE LEAVES: nodes, items, marks; the walks of the makers. -/
import Derived.Test.Qxb6615153aChecked
import Derived.WalkKit
import Derived.Deep.OwnRows
import Derived.Deep.Draws
import Derived.Deep.QuietTactic
import Derived.BigQuiet
import Derived.Deep.RegionWith
namespace Go.Proofs.Qxb6615153a.Nk
open Go.RowKit
set_option linter.unusedVariables false

theorem below_drewN {B : Nat} {a w : World} (h : Below B a w) (n : Nat) : Below B a (w.drewN n) := ⟨h.os, h.tape, h.output, h.size, h.block⟩

/-- Block b, of element type t, begins with n cells f. -/
def Own (w : World) (b : Nat) (t : TypeId) (n : Nat) (f : Nat → Value) : Prop := ∃ c : Array Value, w.heap[b]? = some (.cells c t (0, 0)) ∧ n ≤ c.size ∧ ∀ i, i < n → c[i]? = some (f i)

section
variable {w w' : World} {b b' : Nat} {t t' : TypeId} {n n' : Nat} {f g : Nat → Value}
theorem Own.cell (h : Own w b t n f) {i : Nat} (hi : i < n) : w.cell? ⟨b, i, none⟩ = some (f i) := by
  obtain ⟨c, hb, _, hc⟩ := h
  simp [World.cell?, hb, hc i hi]
theorem Own.frozen (h : Own w b t n f) (i : Nat) : w.frozen? ⟨b, i, none⟩ = false := by
  obtain ⟨c, hb, _, _⟩ := h
  simp [World.frozen?, hb]
theorem Own.lt (h : Own w b t n f) : b < w.heap.size := by
  obtain ⟨c, hb, _, _⟩ := h
  exact (Array.getElem?_eq_some_iff.1 hb).1
theorem Own.of_block (h : Own w b t n f) (e : w'.heap[b]? = w.heap[b]?) : Own w' b t n f := by
  obtain ⟨c, hb, hn, hc⟩ := h
  exact ⟨c, e.trans hb, hn, hc⟩
theorem Own.below {B : Nat} (h : Own w b t n f) (hb : Below B w w') (hB : b < B) : Own w' b t n f := h.of_block (hb.block b hB)
theorem Own.congr (h : Own w b t n f) (e : ∀ i, i < n → f i = g i) : Own w b t n g := by
  obtain ⟨c, hb, hn, hc⟩ := h
  exact ⟨c, hb, hn, fun i hi => by rw [hc i hi, e i hi]⟩
theorem Own.setOther (h : Own w b t n f) {a : Addr} (ha : b ≠ a.block) (v : Value) : Own (w.setCell a v) b t n f := h.of_block (Go.Deep.blk_setCell_other _ _ _ _ ha)
theorem Own.alloc (h : Own w b t n f) (o : Obj) : Own (w.alloc o) b t n f := h.of_block (Go.Deep.blk_alloc_lt _ _ _ h.lt)
/-- Blocks of two types are two blocks. -/
theorem Own.ne (h : Own w b t n f) (h' : Own w b' t' n' g) (ht : t ≠ t') : b ≠ b' := by
  rintro rfl
  obtain ⟨c, hb, _, _⟩ := h
  obtain ⟨c', hb', _, _⟩ := h'
  rw [hb] at hb'
  simp at hb'
  exact ht hb'.2
theorem Own.of_row (h : w.rowIs b t n f) : Own w b t n f := by
  obtain ⟨c, hb, hn, hc⟩ := h
  exact ⟨c, hb, by omega, hc⟩
theorem Own.set (h : Own w b t n f) (i : Nat) (v : Value) : Own (w.setCell ⟨b, i, none⟩ v) b t n (fun j => if j = i then v else f j) := by
  obtain ⟨c, hb, hn, hc⟩ := h
  refine ⟨c.setIfInBounds i v, ?_, by simpa using hn, fun j hj => ?_⟩
  · simp [World.setCell, Array.getElem?_modify, hb]
  · rw [Array.getElem?_setIfInBounds]
    by_cases e : j = i
    · subst e
      simp [show j < c.size by omega]
    · rw [if_neg (fun h => e h.symm)]
      show c[j]? = some (if j = i then v else f j)
      rw [if_neg e]
      exact hc j hj
end

/-- The cells of a node: its marks, its items, its next. -/
def nodeC (mv iv nx : Value) : Array Value := #[.pointer none, .int .i64 0, .slice none 0 0, .slice none 0 0, .int .u64 0, .int .u64 0, .int .u64 0, .int .u64 0, mv, iv, nx, .int .i64 0]
/-- The cells of an item: its run, where it is, its hint. -/
def itemC (rb : Nat) (at_ idx : Int) : Array Value := #[.string ⟨#[]⟩, .pointer (some ⟨rb, 0, none⟩), .int .i32 at_, .int .i32 0, .int .i32 0, .int .i32 idx, .bool false, .bool false, .bool false, .bool false, .int .i32 0, .pointer none, .pointer none]

def Node (w : World) (nd : Nat) (mv iv nx : Value) : Prop := w.heap[nd]? = some (.cells (nodeC mv iv nx) 131 (0, 0))
def Item (w : World) (it rb : Nat) (at_ idx : Int) : Prop := w.heap[it]? = some (.cells (itemC rb at_ idx) 96 (0, 0))

section
variable {w w' : World} {nd it rb : Nat} {mv iv nx : Value} {at_ idx : Int}
theorem Node.marks (h : Node w nd mv iv nx) : w.cell? ⟨nd, 8, none⟩ = some mv := by unfold Node at h; simp [World.cell?, h, nodeC]
theorem Node.items (h : Node w nd mv iv nx) : w.cell? ⟨nd, 9, none⟩ = some iv := by unfold Node at h; simp [World.cell?, h, nodeC]
theorem Node.next (h : Node w nd mv iv nx) : w.cell? ⟨nd, 10, none⟩ = some nx := by unfold Node at h; simp [World.cell?, h, nodeC]
theorem Node.frozen (h : Node w nd mv iv nx) (i : Nat) : w.frozen? ⟨nd, i, none⟩ = false := by unfold Node at h; simp [World.frozen?, h]
theorem Node.lt (h : Node w nd mv iv nx) : nd < w.heap.size := (Array.getElem?_eq_some_iff.1 h).1
theorem Node.own (h : Node w nd mv iv nx) : Own w nd 131 0 (fun _ => .bool false) := ⟨_, h, Nat.zero_le _, fun _ hi => absurd hi (Nat.not_lt_zero _)⟩
theorem Node.of_block (h : Node w nd mv iv nx) (e : w'.heap[nd]? = w.heap[nd]?) : Node w' nd mv iv nx := e.trans h
theorem setCell_block {w : World} {b : Nat} {c : Array Value} {t : TypeId} (h : w.heap[b]? = some (.cells c t (0, 0))) (i : Nat) (v : Value) : (w.setCell ⟨b, i, none⟩ v).heap[b]? = some (.cells (c.setIfInBounds i v) t (0, 0)) := by
  simp [World.setCell, Array.getElem?_modify, h]
theorem Node.setItems (h : Node w nd mv iv nx) (v : Value) : Node (w.setCell ⟨nd, 9, none⟩ v) nd mv v nx := setCell_block h 9 v
theorem Node.setMarks (h : Node w nd mv iv nx) (v : Value) : Node (w.setCell ⟨nd, 8, none⟩ v) nd v iv nx := setCell_block h 8 v
theorem Node.setNext (h : Node w nd mv iv nx) (v : Value) : Node (w.setCell ⟨nd, 10, none⟩ v) nd mv iv v := setCell_block h 10 v
theorem Item.run (h : Item w it rb at_ idx) : w.cell? ⟨it, 1, none⟩ = some (.pointer (some ⟨rb, 0, none⟩)) := by unfold Item at h; simp [World.cell?, h, itemC]
theorem Item.place (h : Item w it rb at_ idx) : w.cell? ⟨it, 2, none⟩ = some (.int .i32 at_) := by unfold Item at h; simp [World.cell?, h, itemC]
theorem Item.hint (h : Item w it rb at_ idx) : w.cell? ⟨it, 5, none⟩ = some (.int .i32 idx) := by unfold Item at h; simp [World.cell?, h, itemC]
theorem Item.frozen (h : Item w it rb at_ idx) (i : Nat) : w.frozen? ⟨it, i, none⟩ = false := by unfold Item at h; simp [World.frozen?, h]
theorem Item.lt (h : Item w it rb at_ idx) : it < w.heap.size := (Array.getElem?_eq_some_iff.1 h).1
theorem Item.own (h : Item w it rb at_ idx) : Own w it 96 0 (fun _ => .bool false) := ⟨_, h, Nat.zero_le _, fun _ hi => absurd hi (Nat.not_lt_zero _)⟩
theorem Item.of_block (h : Item w it rb at_ idx) (e : w'.heap[it]? = w.heap[it]?) : Item w' it rb at_ idx := e.trans h
theorem Item.setIdx (h : Item w it rb at_ idx) (v : Int) : Item (w.setCell ⟨it, 5, none⟩ (.int .i32 v)) it rb at_ v := setCell_block h 5 (.int .i32 v)
/-- Two items that stand at two places are two blocks. -/
theorem Item.ne {it' : Nat} {at' idx' : Int} (h : Item w it rb at_ idx) (h' : Item w it' rb at' idx') (ha : at_ ≠ at') : it ≠ it' := by
  rintro rfl
  have e := h.place.symm.trans h'.place
  simp at e
  exact ha e
end

/-! ### the makers -/
theorem newRun_any (w : World) : Calls Try.prog 28 #[] w fun e w' => e = .returned (.pointer (some ⟨w.heap.size, 0, none⟩)) ∧ Below w.heap.size w w' ∧ w'.heap.size = w.heap.size + 1 := by
  go_enter Try.func28, Try.ntmps28
  go_wp2
  go_ret
  exact ⟨rfl, (Below.refl _ _).alloc (Nat.le_refl _) _, by simp⟩
theorem newLeaf_any (w : World) : Calls Try.prog 42 #[] w fun e w' => e = .returned (.pointer (some ⟨w.heap.size, 0, none⟩)) ∧ w' = w.alloc (.cells (nodeC (.slice none 0 0) (.slice none 0 0) (.pointer none)) 131) := by
  go_enter Try.func42, Try.ntmps42
  go_wp2
  go_ret
  exact ⟨rfl, rfl⟩
theorem newItem_any (rb : Nat) (at_ idx : Int) (w : World) : Calls Try.prog 43 #[.pointer (some ⟨rb, 0, none⟩), .int .i32 at_, .int .i32 idx] w fun e w' => e = .returned (.pointer (some ⟨w.heap.size, 0, none⟩)) ∧ w' = w.alloc (.cells (itemC rb at_ idx) 96) := by
  go_enter Try.func43, Try.ntmps43
  go_wp2
  go_ret
  exact ⟨rfl, rfl⟩
theorem setNext_any (nd nx : Nat) (mv iv v : Value) (w : World) (h : Node w nd mv iv v) : Calls Try.prog 46 #[.pointer (some ⟨nd, 0, none⟩), .pointer (some ⟨nx, 0, none⟩)] w fun e w' => e = .returned (.tuple #[]) ∧ w' = w.setCell ⟨nd, 10, none⟩ (.pointer (some ⟨nx, 0, none⟩)) := by
  have c0 := h.next
  have c1 := h.frozen 10
  go_enter Try.func46, Try.ntmps46
  go_wp2
  go_end0
  exact ⟨rfl, rfl⟩
theorem itemIdx_any (it rb : Nat) (at_ idx : Int) (w : World) (h : Item w it rb at_ idx) : Calls Try.prog 48 #[.pointer (some ⟨it, 0, none⟩)] w fun e w' => e = .returned (.int .i32 idx) ∧ w = w' := by
  have c0 := h.hint
  go_enter Try.func48, Try.ntmps48
  go_wp2
  go_ret
  exact ⟨rfl, rfl⟩

theorem Try.info94 : (Try.prog.info? 94).map (fun i => (i.zero, i.size, i.bytes)) = some (some (.pointer none), 1, 8) := by kernel_rfl
theorem Try.info132 : (Try.prog.info? 132).map (fun i => (i.zero, i.size, i.bytes)) = some (some (.int .u32 0), 1, 4) := by kernel_rfl

/-- What an added item leaves: the node, its longer list of items, all else. -/
structure Added (w w' : World) (nd B : Nat) (t : TypeId) (v v' : Value) (k : Nat) (xs : List Value) : Prop where
  own : w'.ownsRow B t 1 v' k xs
  size : w.heap.size ≤ w'.heap.size
  kept : ∀ b, b < w.heap.size → b ≠ nd → v.ownBlock ≠ some b → w'.heap[b]? = w.heap[b]?
  below : ∀ S, S ≤ nd → S ≤ B → S ≤ w.heap.size → Below S w w'

theorem one_cell (w : World) (v : Value) (t : TypeId) : ∀ j u, [v][j]? = some u → (w.alloc (.cells #[v] t)).cell? ((⟨w.heap.size, 0, none⟩ : Addr).add j) = some u := by
  intro j u hj
  match j, hj with
  | 0, hj => simp at hj; subst hj; simp [Addr.add]
theorem one_ptr (p : Option Addr) : ∀ u ∈ [Value.pointer p], u.oneCell' = true := by
  intro u hu; simp at hu; subst hu; rfl
theorem one_int (n : Int) : ∀ u ∈ [Value.int .u32 n], u.oneCell' = true := by
  intro u hu; simp at hu; subst hu; rfl
theorem own_shape {w : World} {B k : Nat} {t : TypeId} {v : Value} {xs : List Value} (h : w.ownsRow B t 1 v (k + 1) xs) : ∃ g cap, v = .slice (some ⟨g, 0, none⟩) (k + 1) cap ∧ B ≤ g := by
  rcases h.2 with ⟨_, h⟩ | ⟨g, cap, cur, h, hb, _⟩
  · omega
  · exact ⟨g, cap, h, hb⟩
theorem own_ne {w : World} {B k nd : Nat} {t : TypeId} {v : Value} {xs : List Value} (h : w.ownsRow B t 1 v k xs) (hn : nd < B) : v.ownBlock ≠ some nd := by
  intro e
  have := (h.lt nd e).1
  omega
theorem grown_old {w w1 : World} {o : Obj} {row : Option Nat} {b : Nat} (hg : (w.alloc o).grownBy w1 row) (hb : b < w.heap.size) (hr : row ≠ some b) : w1.heap[b]? = w.heap[b]? := by
  rw [hg.block b (by simp; omega) (fun e => hr e.symm), Below.heap_alloc _ _ _ hb]
theorem added_core {w w1 : World} {nd B k i : Nat} {t : TypeId} {v : Value} {xs xs' : List Value} {g cap : Nat} {o : Obj} (hlt : nd < w.heap.size) (ho : w.ownsRow B t 1 v k xs) (hnB : nd < B) (hB : B ≤ w.heap.size)
    (hown : w1.ownsRow B t 1 (.slice (some ⟨g, 0, none⟩) (k + 1) cap) (k + 1) xs') (hg : (w.alloc o).grownBy w1 v.ownBlock) (hgB : B ≤ g) (u : Value) :
    Added w (w1.setCell ⟨nd, i, none⟩ u) nd B t v (.slice (some ⟨g, 0, none⟩) (k + 1) cap) (k + 1) xs' := by
  have hsz : w.heap.size ≤ w1.heap.size := by have := hg.size; simp at this; omega
  refine ⟨ownsRow_setCell_other hown (by show some g ≠ some nd; intro e; have := Option.some.inj e; omega) u, by simp [World.setCell]; exact hsz, fun b hb hnb hne => ?_, fun S h1 h2 h3 => ?_⟩
  · rw [Below.heap_setCell _ _ _ _ (by show b ≠ nd; exact hnb)]; exact grown_old hg hb hne
  · have h0 : Below S w (w.alloc o) := (Below.refl S w).alloc h3 o
    have h1' : Below S w w1 := h0.grown hg (by simp; omega) (fun k' e => by have := (ho.lt k' e).1; omega)
    exact h1'.setCell (p := ⟨nd, i, none⟩) h1 u
theorem added_of {w w1 : World} {nd B k : Nat} {mv iv nx : Value} {xs xs' : List Value} {g cap : Nat} {o : Obj} (h : Node w nd mv iv nx) (hn1 : Node w1 nd mv iv nx) (ho : w.ownsRow B 94 1 iv k xs) (hnB : nd < B) (hB : B ≤ w.heap.size)
    (hown : w1.ownsRow B 94 1 (.slice (some ⟨g, 0, none⟩) (k + 1) cap) (k + 1) xs') (hg : (w.alloc o).grownBy w1 iv.ownBlock) :
    Node (w1.setCell ⟨nd, 9, none⟩ (.slice (some ⟨g, 0, none⟩) (k + 1) cap)) nd mv (.slice (some ⟨g, 0, none⟩) (k + 1) cap) nx ∧ Added w (w1.setCell ⟨nd, 9, none⟩ (.slice (some ⟨g, 0, none⟩) (k + 1) cap)) nd B 94 iv (.slice (some ⟨g, 0, none⟩) (k + 1) cap) (k + 1) xs' := by
  refine ⟨hn1.setItems _, added_core h.lt ho hnB hB hown hg ?_ _⟩
  have := (hown.lt g rfl).1; exact this
theorem added_of' {w w1 : World} {nd B k : Nat} {mv iv nx : Value} {xs xs' : List Value} {g cap : Nat} {o : Obj} (h : Node w nd mv iv nx) (hn1 : Node w1 nd mv iv nx) (ho : w.ownsRow B 132 1 mv k xs) (hnB : nd < B) (hB : B ≤ w.heap.size)
    (hown : w1.ownsRow B 132 1 (.slice (some ⟨g, 0, none⟩) (k + 1) cap) (k + 1) xs') (hg : (w.alloc o).grownBy w1 mv.ownBlock) :
    Node (w1.setCell ⟨nd, 8, none⟩ (.slice (some ⟨g, 0, none⟩) (k + 1) cap)) nd (.slice (some ⟨g, 0, none⟩) (k + 1) cap) iv nx ∧ Added w (w1.setCell ⟨nd, 8, none⟩ (.slice (some ⟨g, 0, none⟩) (k + 1) cap)) nd B 132 mv (.slice (some ⟨g, 0, none⟩) (k + 1) cap) (k + 1) xs' := by
  refine ⟨hn1.setMarks _, added_core h.lt ho hnB hB hown hg ?_ _⟩
  have := (hown.lt g rfl).1; exact this

set_option maxHeartbeats 800000 in
theorem addItem_any (nd B k : Nat) (mv iv nx : Value) (xs : List Value) (p : Option Addr) (w : World) (h : Node w nd mv iv nx) (ho : w.ownsRow B 94 1 iv k xs) (hB : B ≤ w.heap.size) (hnB : nd < B) (hk : k ≤ 128) :
    Calls Try.prog 44 #[.pointer (some ⟨nd, 0, none⟩), .pointer p] w fun e w' => e = .returned (.tuple #[]) ∧ ∃ iv', Node w' nd mv iv' nx ∧ Added w w' nd B 94 iv iv' (k + 1) (xs ++ [.pointer p]) := by
  obtain ⟨i0, hi, hz0, hz1, hz2⟩ := info_parts Try.info94
  have c0 := h.items
  go_enter Try.func44, Try.ntmps44
  go_wp2_with (at_builtin; refine wpList_append_own _ rfl (.tmp 8) (.tmp 10) 101 rfl B 94 i0 (.pointer none) 1 8 Try.underlying101 hi hz0 hz1 hz2 rfl (by decide) _ _ _ rfl (by exact ho.alloc _) ⟨w.heap.size, 0, none⟩ 1 1 [.pointer p] rfl rfl ?c1 ?c2 ?c3 ?c4 ?c5 ?_)
  case c1 => exact one_cell _ _ _
  case c2 => exact one_ptr _
  case c3 => unfold maxLen; omega
  case c4 => omega
  case c5 => simp; omega
  · intro v' w1 hown' hgrow _
    obtain ⟨g, cap, rfl, hgB⟩ := own_shape hown'
    have hn1 : Node w1 nd mv iv nx := h.of_block (grown_old hgrow h.lt (own_ne ho hnB))
    have c1 := hn1.items
    have c2 := hn1.frozen 9
    have R := added_of h hn1 ho hnB hB hown' hgrow
    clear hown' hgrow hn1
    go_wp2
    go_end0
    exact ⟨rfl, _, R.1, R.2⟩

set_option maxHeartbeats 800000 in
theorem addMark_any (nd B k : Nat) (mv iv nx : Value) (xs : List Value) (p : Int) (w : World) (h : Node w nd mv iv nx) (ho : w.ownsRow B 132 1 mv k xs) (hB : B ≤ w.heap.size) (hnB : nd < B) (hk : k ≤ 128) :
    Calls Try.prog 45 #[.pointer (some ⟨nd, 0, none⟩), .int .u32 p] w fun e w' => e = .returned (.tuple #[]) ∧ ∃ mv', Node w' nd mv' iv nx ∧ Added w w' nd B 132 mv mv' (k + 1) (xs ++ [.int .u32 p]) := by
  obtain ⟨i0, hi, hz0, hz1, hz2⟩ := info_parts Try.info132
  have c0 := h.marks
  go_enter Try.func45, Try.ntmps45
  go_wp2_with (at_builtin; refine wpList_append_own _ rfl (.tmp 8) (.tmp 10) 129 rfl B 132 i0 (.int .u32 0) 1 4 Try.underlying129 hi hz0 hz1 hz2 rfl (by decide) _ _ _ rfl (by exact ho.alloc _) ⟨w.heap.size, 0, none⟩ 1 1 [.int .u32 p] rfl rfl ?c1 ?c2 ?c3 ?c4 ?c5 ?_)
  case c1 => exact one_cell _ _ _
  case c2 => exact one_int _
  case c3 => unfold maxLen; omega
  case c4 => omega
  case c5 => simp; omega
  · intro v' w1 hown' hgrow _
    obtain ⟨g, cap, rfl, hgB⟩ := own_shape hown'
    have hn1 : Node w1 nd mv iv nx := h.of_block (grown_old hgrow h.lt (own_ne ho hnB))
    have c1 := hn1.marks
    have c2 := hn1.frozen 8
    have R := added_of' h hn1 ho hnB hB hown' hgrow
    clear hown' hgrow hn1
    go_wp2
    go_end0
    exact ⟨rfl, _, R.1, R.2⟩
end Go.Proofs.Qxb6615153a.Nk
