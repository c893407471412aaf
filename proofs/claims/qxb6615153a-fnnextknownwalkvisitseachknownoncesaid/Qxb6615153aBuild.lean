/- buildLeaves: WHAT IT BUILDS, without a walk. -/
import Derived.Test.Qxb6615153aMem
namespace Go.Proofs.Qxb6615153a.Nk
open Go.RowKit
set_option linter.unusedVariables false

def ptr (b : Nat) : Value := .pointer (some ⟨b, 0, none⟩)

/-- One leaf: its node, its marks, its items twice told, each item's own block. -/
structure Leaf (w : World) (rb L n : Nat) (M : Nat → Int) (nd its : Nat) (it : Nat → Nat) (hint : Nat → Int) (nx : Value) : Prop where
  node : ∃ mk mc ib ic, Node w nd (.slice (some ⟨mk, 0, none⟩) n mc) (.slice (some ⟨ib, 0, none⟩) n ic) nx ∧ Own w mk 132 n (fun i => .int .u32 (M i)) ∧ Own w ib 94 n (fun s => ptr (it s))
  its : Own w its 94 n (fun s => ptr (it s))
  items : ∀ s, s < n → Item w (it s) rb ((L : Int) * 256 + s) (hint s)

/-- No block of a leaf's four types turns. -/
def Keeps (w w' : World) : Prop := ∀ (b : Nat) (c : Array Value) (t : TypeId), w.heap[b]? = some (Obj.cells c t (0, 0)) → (t = 131 ∨ t = 132 ∨ t = 94 ∨ t = 96) → w'.heap[b]? = w.heap[b]?

section
variable {w w' : World} {rb L n : Nat} {M : Nat → Int} {nd its : Nat} {it : Nat → Nat} {hint : Nat → Int} {nx : Value}

theorem Own.keep {b : Nat} {t : TypeId} {m : Nat} {f : Nat → Value} (h : Own w b t m f) (hk : Keeps w w') (ht : t = 131 ∨ t = 132 ∨ t = 94 ∨ t = 96) : Own w' b t m f := by
  obtain ⟨c, hb, h2, h3⟩ := h
  exact ⟨c, (hk b c t hb ht).trans hb, h2, h3⟩

/-- A leaf stays what it is where no block of its four types turns. -/
theorem Leaf.keep (h : Leaf w rb L n M nd its it hint nx) (hk : Keeps w w') : Leaf w' rb L n M nd its it hint nx := by
  obtain ⟨⟨mk, mc, ib, ic, h1, h2, h3⟩, h4, h5⟩ := h
  exact ⟨⟨mk, mc, ib, ic, h1.of_block (hk _ _ _ h1 (.inl rfl)), h2.keep hk (.inr (.inl rfl)), h3.keep hk (.inr (.inr (.inl rfl)))⟩, h4.keep hk (.inr (.inr (.inl rfl))), fun s hs => (h5 s hs).of_block (hk _ _ _ (h5 s hs) (.inr (.inr (.inr rfl))))⟩

theorem keep_below (hb : Below w.heap.size w w') : Keeps w w' :=
  fun b c t h _ => hb.block b (Array.getElem?_eq_some_iff.1 h).1
theorem Leaf.below (h : Leaf w rb L n M nd its it hint nx) (hb : Below w.heap.size w w') : Leaf w' rb L n M nd its it hint nx := h.keep (keep_below hb)
/-- A store into a block of another type. -/
theorem Leaf.store (h : Leaf w rb L n M nd its it hint nx) {b i m : Nat} {t : TypeId} {f : Nat → Value} (ho : Own w b t m f) (ht : t ≠ 131 ∧ t ≠ 132 ∧ t ≠ 94 ∧ t ≠ 96) (v : Value) : Leaf (w.setCell ⟨b, i, none⟩ v) rb L n M nd its it hint nx := by
  refine h.keep fun b' c t' hb' ht' => Below.heap_setCell _ _ _ _ (fun e => ?_)
  have e' : b' = b := e
  subst e'
  obtain ⟨c', hc', _, _⟩ := ho
  rw [hc'] at hb'
  simp at hb'
  rcases ht' with h | h | h | h
  · exact ht.1 (hb'.2.trans h)
  · exact ht.2.1 (hb'.2.trans h)
  · exact ht.2.2.1 (hb'.2.trans h)
  · exact ht.2.2.2 (hb'.2.trans h)

/-- Two leaves' nodes are two blocks. -/
theorem Leaf.ne {L' n' : Nat} {M' : Nat → Int} {nd' its' : Nat} {it' : Nat → Nat} {hint' : Nat → Int} {nx' : Value} (h : Leaf w rb L n M nd its it hint nx) (h' : Leaf w rb L' n' M' nd' its' it' hint' nx') (hn : 0 < n) (hn' : 0 < n') (hL : L ≠ L') : nd ≠ nd' := by
  rintro rfl
  obtain ⟨⟨mk, mc, ib, ic, h1, h2, h3⟩, h4, h5⟩ := h
  obtain ⟨⟨mk', mc', ib', ic', h1', h2', h3'⟩, h4', h5'⟩ := h'
  have e := h1.items.symm.trans h1'.items
  simp at e
  obtain ⟨rfl, _, _⟩ := e
  have e2 := (h3.cell hn).symm.trans (h3'.cell hn')
  simp [ptr] at e2
  have a1 := (h5 0 hn).place
  have a2 := (h5' 0 hn').place
  rw [e2] at a1
  have e3 := a1.symm.trans a2
  simp at e3
  omega
end

/-! ### one leaf being built: its items -/
structure Mid2 (w wr : World) (rb L n s : Nat) (it : Nat → Nat) (iv : Value) : Prop where
  below : Below w.heap.size w wr
  node : Node wr w.heap.size (.slice none 0 0) iv (.pointer none)
  its : Own wr (w.heap.size + 1) 94 n (fun j => if j < s then ptr (it j) else .pointer none)
  own : wr.ownsRow (w.heap.size + 1 + 1) 94 1 iv s ((List.range s).map fun j => ptr (it j))
  items : ∀ j, j < s → Item wr (it j) rb ((L : Int) * 256 + j) j
  size : w.heap.size + 1 + 1 ≤ wr.heap.size
  lo : ∀ j, j < s → w.heap.size ≤ it j

theorem mid2_start (w : World) (rb L n : Nat) : Mid2 w ((w.alloc (.cells (nodeC (.slice none 0 0) (.slice none 0 0) (.pointer none)) 131)).alloc (.cells (madeCells #[.pointer none] n) 94)) rb L n 0 (fun _ => 0) (.slice none 0 0) := by
  have e1 : (w.alloc (.cells (nodeC (.slice none 0 0) (.slice none 0 0) (.pointer none)) 131)).heap.size = w.heap.size + 1 := by simp
  have k2 := World.rowIs_made (w.alloc (.cells (nodeC (.slice none 0 0) (.slice none 0 0) (.pointer none)) 131)) (.pointer none) n 94
  rw [e1] at k2
  refine ⟨((Below.refl _ _).alloc (Nat.le_refl _) _).alloc (by simp) _, ?_, (Own.of_row k2).congr (fun i _ => by simp), World.ownsRow_nil _ _ _ _, fun j hj => absurd hj (Nat.not_lt_zero _), by simp, fun j hj => absurd hj (Nat.not_lt_zero _)⟩
  unfold Node
  rw [Below.heap_alloc _ _ _ (by simp)]
  exact Go.Deep.blk_alloc_new _ _

/-- The world behind 'its[s] = ZZnewItem(..)'. -/
def W1 (w wr : World) (rb L s : Nat) : World := (wr.alloc (.cells (itemC rb ((L : Int) * 256 + s) s) 96)).setCell ⟨w.heap.size + 1, s, none⟩ (.pointer (some ⟨wr.heap.size, 0, none⟩))

section
variable {w wr : World} {rb L n s : Nat} {it : Nat → Nat} {iv : Value}
theorem mid2_node (h : Mid2 w wr rb L n s it iv) : Node (W1 w wr rb L s) w.heap.size (.slice none 0 0) iv (.pointer none) := by
  have := h.size
  refine h.node.of_block ?_
  unfold W1
  rw [Below.heap_setCell _ _ _ _ (by show w.heap.size ≠ w.heap.size + 1; omega), Below.heap_alloc _ _ _ (by omega)]
theorem mid2_own (h : Mid2 w wr rb L n s it iv) : (W1 w wr rb L s).ownsRow (w.heap.size + 1 + 1) 94 1 iv s ((List.range s).map fun j => ptr (it j)) := by
  refine ownsRow_setCell_other (h.own.alloc _) (fun e => ?_) _
  have := (h.own.lt _ e).1
  simp at this
  omega
theorem mid2_its (h : Mid2 w wr rb L n s it iv) : Own (W1 w wr rb L s) (w.heap.size + 1) 94 n (fun j => if j < s + 1 then ptr (if j = s then wr.heap.size else it j) else .pointer none) := by
  refine ((h.its.alloc _).set s _).congr (fun i _ => ?_)
  by_cases e : i = s
  · subst e; simp [ptr]
  · rw [if_neg e]
    by_cases hlt : i < s
    · rw [if_pos hlt, if_pos (by omega), if_neg e]
    · rw [if_neg hlt, if_neg (by omega)]
theorem mid2_size (h : Mid2 w wr rb L n s it iv) : (W1 w wr rb L s).heap.size = wr.heap.size + 1 := by simp [W1, World.setCell]
theorem mid2_step {w2 : World} {iv' : Value} (h : Mid2 w wr rb L n s it iv) (hn : Node w2 w.heap.size (.slice none 0 0) iv' (.pointer none))
    (ha : Added (W1 w wr rb L s) w2 w.heap.size (w.heap.size + 1 + 1) 94 iv iv' (s + 1) ((List.range s).map (fun j => ptr (it j)) ++ [.pointer (some ⟨wr.heap.size, 0, none⟩)])) :
    Mid2 w w2 rb L n (s + 1) (fun j => if j = s then wr.heap.size else it j) iv' := by
  have hsz := h.size
  have hs1 := mid2_size h
  have hB1 : Below w.heap.size w (W1 w wr rb L s) := (h.below.alloc (by omega) _).setCell (p := ⟨w.heap.size + 1, s, none⟩) (by show w.heap.size ≤ w.heap.size + 1; omega) _
  have hneown : ∀ b, b < w.heap.size + 1 + 1 → iv.ownBlock ≠ some b := fun b hb e => by have := (h.own.lt b e).1; omega
  refine ⟨hB1.trans (ha.below _ (Nat.le_refl _) (by omega) (by omega)), hn, (mid2_its h).of_block (ha.kept _ (by omega) (by omega) (hneown _ (by omega))), ?_, fun j hj => ?_, by have := ha.size; omega, fun j hj => ?_⟩
  rotate_right
  · show w.heap.size ≤ if j = s then wr.heap.size else it j
    by_cases e : j = s
    · rw [if_pos e]; omega
    · rw [if_neg e]; exact h.lo j (by omega)
  · have e : (List.range (s + 1)).map (fun j => ptr (if j = s then wr.heap.size else it j)) = (List.range s).map (fun j => ptr (it j)) ++ [.pointer (some ⟨wr.heap.size, 0, none⟩)] := by
      rw [List.range_succ, List.map_append]
      congr 1
      · refine List.map_congr_left fun j hj => ?_
        have := List.mem_range.1 hj
        rw [if_neg (by omega)]
      · simp [ptr]
    rw [e]; exact ha.own
  · -- an item: of type 96, so neither the node nor the list of items
    have key : ∀ q at_ hd, Item (W1 w wr rb L s) q rb at_ hd → Item w2 q rb at_ hd := fun q at_ hd hq => by
      refine hq.of_block (ha.kept q hq.lt (fun e => ?_) (fun e => ?_))
      · exact (hq.own.ne (mid2_node h).own (by decide)) e
      · rcases (mid2_own h).2 with ⟨rfl, _⟩ | ⟨g, cap, cur, rfl, _, hg, _⟩
        · cases e
        · have e' : g = q := Option.some.inj e
          subst e'
          rw [hq] at hg
          simp at hg
    by_cases e : j = s
    · subst e
      simp only [if_true]
      refine key _ _ _ ?_
      unfold Item W1
      rw [Below.heap_setCell _ _ _ _ (by show wr.heap.size ≠ w.heap.size + 1; omega)]
      exact Go.Deep.blk_alloc_new _ _
    · simp only [e, if_false]
      have hi := h.items j (by omega)
      refine key _ _ _ (hi.of_block ?_)
      unfold W1
      have hl := hi.lt
      rw [Below.heap_setCell _ _ _ _ (fun e' => (hi.own.ne h.its (by decide)) e'), Below.heap_alloc _ _ _ hl]
end

/-! ### one leaf being built: its marks -/
structure Mid3 (w wr : World) (rb L n i : Nat) (M : Nat → Int) (it : Nat → Nat) (mv iv : Value) : Prop where
  below : Below w.heap.size w wr
  node : Node wr w.heap.size mv iv (.pointer none)
  its : Own wr (w.heap.size + 1) 94 n (fun j => ptr (it j))
  own : wr.ownsRow (w.heap.size + 1 + 1) 94 1 iv n ((List.range n).map fun j => ptr (it j))
  marks : wr.ownsRow (w.heap.size + 1 + 1) 132 1 mv i ((List.range i).map fun j => .int .u32 (M j))
  items : ∀ j, j < n → Item wr (it j) rb ((L : Int) * 256 + j) j
  size : w.heap.size + 1 + 1 ≤ wr.heap.size
  lo : ∀ j, j < n → w.heap.size ≤ it j

section
variable {w wr : World} {rb L n i : Nat} {M : Nat → Int} {it : Nat → Nat} {mv iv : Value}
theorem mid3_start (h : Mid2 w wr rb L n n it iv) : Mid3 w wr rb L n 0 M it (.slice none 0 0) iv :=
  ⟨h.below, h.node, h.its.congr (fun i hi => by rw [if_pos hi]), h.own, World.ownsRow_nil _ _ _ _, h.items, h.size, h.lo⟩

/-- An owned row as a block. -/
theorem own_block {w : World} {B k : Nat} {t : TypeId} {v : Value} {xs : List Value} (h : w.ownsRow B t 1 v k xs) {b : Nat} (hb : v.ownBlock = some b) : ∃ c, w.heap[b]? = some (.cells c t (0, 0)) := by
  rcases h.2 with ⟨rfl, _⟩ | ⟨g, cap, cur, rfl, _, hg, _⟩
  · cases hb
  · obtain rfl : g = b := Option.some.inj hb
    exact ⟨cur, hg⟩

theorem mid3_step {w2 : World} {mv' : Value} (h : Mid3 w wr rb L n i M it mv iv) (hn : Node w2 w.heap.size mv' iv (.pointer none))
    (ha : Added wr w2 w.heap.size (w.heap.size + 1 + 1) 132 mv mv' (i + 1) ((List.range i).map (fun j => .int .u32 (M j)) ++ [.int .u32 (M i)])) :
    Mid3 w w2 rb L n (i + 1) M it mv' iv := by
  have hsz := h.size
  have hne : ∀ (b : Nat) (c : Array Value) (t : TypeId), wr.heap[b]? = some (Obj.cells c t (0, 0)) → t ≠ 132 → mv.ownBlock ≠ some b := fun b c t hb ht e => by
    obtain ⟨c', hc'⟩ := own_block h.marks e
    rw [hc'] at hb
    simp at hb
    exact ht hb.2.symm
  have hkeep : ∀ (b : Nat) (c : Array Value) (t : TypeId), wr.heap[b]? = some (Obj.cells c t (0, 0)) → t ≠ 132 → t ≠ 131 → w2.heap[b]? = wr.heap[b]? := fun b c t hb h1 h2 => by
    refine ha.kept b (Array.getElem?_eq_some_iff.1 hb).1 (fun e => ?_) (hne b c t hb h1)
    subst e
    have := h.node
    unfold Node at this
    rw [this] at hb
    simp at hb
    exact h2 hb.2.symm
  refine ⟨h.below.trans (ha.below _ (Nat.le_refl _) (by omega) (by omega)), hn, ?_, ?_, ?_, fun j hj => ?_, by have := ha.size; omega, h.lo⟩
  · obtain ⟨c, hc, _⟩ := h.its
    exact h.its.of_block (hkeep _ _ _ hc (by decide) (by decide))
  · have ho := h.own
    refine ⟨ho.1, ?_⟩
    rcases ho.2 with hh | ⟨g, cap, cur, hv, hb, hg, hr⟩
    · exact .inl hh
    · exact .inr ⟨g, cap, cur, hv, hb, (hkeep _ _ _ hg (by decide) (by decide)).trans hg, hr⟩
  · rw [List.range_succ, List.map_append]; exact ha.own
  · have hi := h.items j hj
    exact hi.of_block (hkeep _ _ _ hi (by decide) (by decide))

theorem own_of_row {w : World} {B k : Nat} {t : TypeId} {v : Value} {f : Nat → Value} (hk : 0 < k) (h : w.ownsRow B t 1 v k ((List.range k).map f)) : ∃ g cap, v = .slice (some ⟨g, 0, none⟩) k cap ∧ Own w g t k f := by
  rcases h.2 with ⟨_, h0⟩ | ⟨g, cap, cur, hv, hb, hg, hkc, _, hs, ht⟩
  · omega
  · refine ⟨g, cap, hv, cur, hg, by omega, fun i hi => ?_⟩
    have h1 : (cur.toList.take (k * 1))[i]? = ((List.range k).map f)[i]? := by rw [ht]
    rw [List.getElem?_take_of_lt (by omega)] at h1
    simp [hi] at h1
    simpa using h1

/-- The leaf is whole. -/
theorem mid3_leaf (h : Mid3 w wr rb L n n M it mv iv) (hn : 0 < n) : Leaf wr rb L n M w.heap.size (w.heap.size + 1) it (fun s => s) (.pointer none) := by
  obtain ⟨mk, mc, rfl, hm⟩ := own_of_row hn h.marks
  obtain ⟨ib, ic, rfl, hi⟩ := own_of_row hn h.own
  exact ⟨⟨mk, mc, ib, ic, h.node, hm, hi⟩, h.its, h.items⟩
end

/-! ### the leaves, k of them built -/
structure Outer (w wr : World) (rb N k : Nat) (Ln : Nat → Nat) (M : Nat → Nat → Int) (nd its : Nat → Nat) (it : Nat → Nat → Nat) : Prop where
  below : Below w.heap.size w wr
  nodes : Own wr w.heap.size 56 N (fun j => if j < k then ptr (nd j) else .pointer none)
  lists : Own wr (w.heap.size + 1) 101 N (fun j => if j < k then .slice (some ⟨its j, 0, none⟩) (Ln j) (Ln j) else .slice none 0 0)
  leaf : ∀ j, j < k → Leaf wr rb j (Ln j) (M j) (nd j) (its j) (it j) (fun s => s) (.pointer none)
  size : w.heap.size + 1 + 1 ≤ wr.heap.size
  lo : ∀ j, j < k → w.heap.size ≤ nd j ∧ ∀ s, s < Ln j → w.heap.size ≤ it j s

theorem outer_start (w : World) (rb N : Nat) (Ln : Nat → Nat) (M : Nat → Nat → Int) : Outer w ((w.alloc (.cells (madeCells #[.pointer none] N) 56)).alloc (.cells (madeCells #[.slice none 0 0] N) 101)) rb N 0 Ln M (fun _ => 0) (fun _ => 0) (fun _ _ => 0) := by
  have k1 := World.rowIs_made w (.pointer none) N 56
  have k2 := World.rowIs_made (w.alloc (.cells (madeCells #[.pointer none] N) 56)) (.slice none 0 0) N 101
  have e1 : (w.alloc (.cells (madeCells #[.pointer none] N) 56)).heap.size = w.heap.size + 1 := by simp
  rw [e1] at k2
  exact ⟨((Below.refl _ _).alloc (Nat.le_refl _) _).alloc (by simp) _, (Own.of_row (k1.alloc _)).congr (fun i _ => by simp), (Own.of_row k2).congr (fun i _ => by simp), fun j hj => absurd hj (Nat.not_lt_zero _), by simp, fun j hj => absurd hj (Nat.not_lt_zero _)⟩

def upd {α : Type} (g : Nat → α) (k : Nat) (v : α) (j : Nat) : α := if j = k then v else g j

theorem outer_step {w wr w3 : World} {rb N k : Nat} {Ln : Nat → Nat} {M : Nat → Nat → Int} {nd its : Nat → Nat} {it : Nat → Nat → Nat} {it' : Nat → Nat} {mv iv : Value} (h : Outer w wr rb N k Ln M nd its it)
    (h3 : Mid3 wr w3 rb k (Ln k) (Ln k) (M k) it' mv iv) (hn : 0 < Ln k) :
    Outer w ((w3.setCell ⟨w.heap.size, k, none⟩ (ptr wr.heap.size)).setCell ⟨w.heap.size + 1, k, none⟩ (.slice (some ⟨wr.heap.size + 1, 0, none⟩) (Ln k) (Ln k))) rb N (k + 1) Ln M (upd nd k wr.heap.size) (upd its k (wr.heap.size + 1)) (upd it k it') := by
  have hsz := h.size
  have hs3 := h3.size
  have hb3 := h3.below
  have n3 : Own w3 w.heap.size 56 N (fun j => if j < k then ptr (nd j) else .pointer none) := h.nodes.below hb3 h.nodes.lt
  have l3 : Own w3 (w.heap.size + 1) 101 N (fun j => if j < k then .slice (some ⟨its j, 0, none⟩) (Ln j) (Ln j) else .slice none 0 0) := h.lists.below hb3 h.lists.lt
  have n4 := n3.set k (ptr wr.heap.size)
  have l4 := l3.setOther (a := ⟨w.heap.size, k, none⟩) (by show w.heap.size + 1 ≠ w.heap.size; omega) (ptr wr.heap.size)
  have keep : ∀ {L n : Nat} {M : Nat → Int} {nd its : Nat} {it : Nat → Nat} {hint : Nat → Int} {nx : Value}, Leaf w3 rb L n M nd its it hint nx →
      Leaf ((w3.setCell ⟨w.heap.size, k, none⟩ (ptr wr.heap.size)).setCell ⟨w.heap.size + 1, k, none⟩ (.slice (some ⟨wr.heap.size + 1, 0, none⟩) (Ln k) (Ln k))) rb L n M nd its it hint nx :=
    fun hl => (hl.store n3 (by decide) _).store l4 (by decide) _
  refine ⟨((h.below.trans (hb3.mono (by omega))).setCell (p := ⟨w.heap.size, k, none⟩) (Nat.le_refl _) _).setCell (p := ⟨w.heap.size + 1, k, none⟩) (by show w.heap.size ≤ w.heap.size + 1; omega) _, ?_, ?_, fun j hj => ?_, by simp [World.setCell]; omega, fun j hj => ?_⟩
  rotate_right
  · unfold upd
    by_cases e : j = k
    · subst e
      simp only [if_true]
      exact ⟨by omega, fun s hs => by have := h3.lo s hs; omega⟩
    · simp only [e, if_false]
      exact h.lo j (by omega)
  · refine (n4.setOther (a := ⟨w.heap.size + 1, k, none⟩) (by show w.heap.size ≠ w.heap.size + 1; omega) _).congr (fun j _ => ?_)
    unfold upd
    by_cases e : j = k
    · subst e; simp
    · rw [if_neg e]
      by_cases hlt : j < k
      · rw [if_pos hlt, if_pos (by omega), if_neg e]
      · rw [if_neg hlt, if_neg (by omega)]
  · refine (l4.set k _).congr (fun j _ => ?_)
    unfold upd
    by_cases e : j = k
    · subst e; simp
    · rw [if_neg e]
      by_cases hlt : j < k
      · rw [if_pos hlt, if_pos (by omega), if_neg e]
      · rw [if_neg hlt, if_neg (by omega)]
  · unfold upd
    by_cases e : j = k
    · subst e
      simp only [if_true]
      exact keep (mid3_leaf h3 hn)
    · simp only [e, if_false]
      exact keep ((h.leaf j (by omega)).below hb3)

/-! ### the leaves linked -/
def nxt (nd : Nat → Nat) (k j : Nat) : Value := if j < k then ptr (nd (j + 1)) else .pointer none

/-- All that is built: the first k links are laid; the hints are 'hint'. -/
structure Built (wr : World) (nb lb rb N k : Nat) (Ln : Nat → Nat) (M : Nat → Nat → Int) (nd its : Nat → Nat) (it : Nat → Nat → Nat) (hint : Nat → Nat → Int) : Prop where
  nodes : Own wr nb 56 N (fun j => ptr (nd j))
  lists : Own wr lb 101 N (fun j => .slice (some ⟨its j, 0, none⟩) (Ln j) (Ln j))
  leaf : ∀ j, j < N → Leaf wr rb j (Ln j) (M j) (nd j) (its j) (it j) (hint j) (nxt nd k j)

theorem built_start {w wr : World} {rb N : Nat} {Ln : Nat → Nat} {M : Nat → Nat → Int} {nd its : Nat → Nat} {it : Nat → Nat → Nat} (h : Outer w wr rb N N Ln M nd its it) : Built wr w.heap.size (w.heap.size + 1) rb N 0 Ln M nd its it (fun _ s => s) :=
  ⟨h.nodes.congr (fun j hj => by rw [if_pos hj]), h.lists.congr (fun j hj => by rw [if_pos hj]), fun j hj => by unfold nxt; rw [if_neg (Nat.not_lt_zero _)]; exact h.leaf j hj⟩

theorem Built.drewN {wr : World} {nb lb rb N k : Nat} {Ln : Nat → Nat} {M : Nat → Nat → Int} {nd its : Nat → Nat} {it : Nat → Nat → Nat} {hint : Nat → Nat → Int} (h : Built wr nb lb rb N k Ln M nd its it hint) (n : Nat) : Built (wr.drewN n) nb lb rb N k Ln M nd its it hint :=
  ⟨h.nodes.of_block rfl, h.lists.of_block rfl, fun j hj => (h.leaf j hj).keep (fun _ _ _ _ _ => rfl)⟩

theorem Built.below {wr w' : World} {nb lb rb N k : Nat} {Ln : Nat → Nat} {M : Nat → Nat → Int} {nd its : Nat → Nat} {it : Nat → Nat → Nat} {hint : Nat → Nat → Int} (h : Built wr nb lb rb N k Ln M nd its it hint) (hb : Below wr.heap.size wr w') : Built w' nb lb rb N k Ln M nd its it hint :=
  ⟨h.nodes.below hb h.nodes.lt, h.lists.below hb h.lists.lt, fun j hj => (h.leaf j hj).below hb⟩

/-- 'ZZsetNext(nodes[k], nodes[k+1])'. -/
theorem built_link {wr : World} {nb lb rb N k : Nat} {Ln : Nat → Nat} {M : Nat → Nat → Int} {nd its : Nat → Nat} {it : Nat → Nat → Nat} {hint : Nat → Nat → Int} (h : Built wr nb lb rb N k Ln M nd its it hint) (hk : k + 1 < N) (hn : ∀ j, j < N → 0 < Ln j) :
    Built (wr.setCell ⟨nd k, 10, none⟩ (ptr (nd (k + 1)))) nb lb rb N (k + 1) Ln M nd its it hint := by
  have hlk := h.leaf k (by omega)
  obtain ⟨mk, mc, ib, ic, h1, h2, h3⟩ := hlk.node
  refine ⟨h.nodes.setOther (fun e => (h.nodes.ne h1.own (by decide)) e) _, h.lists.setOther (fun e => (h.lists.ne h1.own (by decide)) e) _, fun j hj => ?_⟩
  by_cases e : j = k
  · subst e
    refine ⟨⟨mk, mc, ib, ic, ?_, h2.setOther (fun e => (h2.ne h1.own (by decide)) e) _, h3.setOther (fun e => (h3.ne h1.own (by decide)) e) _⟩, hlk.its.setOther (fun e => (hlk.its.ne h1.own (by decide)) e) _, fun s hs => ?_⟩
    · have : nxt nd (j + 1) j = ptr (nd (j + 1)) := by unfold nxt; rw [if_pos (by omega)]
      rw [this]
      exact h1.setNext _
    · have hi := hlk.items s hs
      exact hi.of_block (Below.heap_setCell _ _ _ _ (fun e => (hi.own.ne h1.own (by decide)) e))
  · have hlj := h.leaf j hj
    have hne : nd j ≠ nd k := hlj.ne hlk (hn j hj) (hn k (by omega)) e
    have : nxt nd (k + 1) j = nxt nd k j := by
      unfold nxt
      by_cases hlt : j < k
      · rw [if_pos hlt, if_pos (by omega)]
      · rw [if_neg hlt, if_neg (by omega)]
    rw [this]
    obtain ⟨mk', mc', ib', ic', h1', h2', h3'⟩ := hlj.node
    exact ⟨⟨mk', mc', ib', ic', h1'.of_block (Below.heap_setCell _ _ _ _ hne), h2'.setOther (fun e => (h2'.ne h1.own (by decide)) e) _, h3'.setOther (fun e => (h3'.ne h1.own (by decide)) e) _⟩, hlj.its.setOther (fun e => (hlj.its.ne h1.own (by decide)) e) _, fun s hs => (hlj.items s hs).of_block (Below.heap_setCell _ _ _ _ (fun e => ((hlj.items s hs).own.ne h1.own (by decide)) e))⟩
end Go.Proofs.Qxb6615153a.Nk
