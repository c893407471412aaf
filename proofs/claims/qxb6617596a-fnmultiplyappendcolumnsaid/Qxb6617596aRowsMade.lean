/- WHAT THE LAW's OWN LOOPS MAKE: the longer rows, the longer vector: no walk here. -/
import Derived.Test.Qxb6617596aSm
namespace Go.Proofs.Qxb6617596a
open Go.RowKit Fl

/-- The new rows' own row, when k of them are laid. -/
def topV (B n : Nat) (R : Nat → Option Addr) (L C : Nat → Nat) (k : Nat) : Nat → Value := fun j =>
  if j < k then (if j < n then .slice (some ⟨B + 1 + j, 0, none⟩) (L j + 1) (L j + 1) else .slice (R j) (L j) (C j)) else .slice none 0 0
def z2 (n : Nat) (L : Nat → Nat) (Z : Nat → Nat → Nat) (A : Nat → Nat) (j c : Nat) : Nat := if j < n ∧ c = L j then A j else Z j c

structure Outer (w wr : World) (lm n k : Nat) (R : Nat → Option Addr) (L C : Nat → Nat) (Z : Nat → Nat → Nat) (A : Nat → Nat) : Prop where
  below : Below w.heap.size w wr
  size : wr.heap.size = w.heap.size + 1 + min k n
  top : wr.rowIs w.heap.size 23 lm (topV w.heap.size n R L C k)
  done : ∀ j, j < k → j < n → wr.rowIs (w.heap.size + 1 + j) 24 (L j + 1) (fun c => .float .f64 (z2 n L Z A j c))

structure Inner (w wi : World) (lm n k c : Nat) (R : Nat → Option Addr) (L C : Nat → Nat) (Z : Nat → Nat → Nat) (A : Nat → Nat) : Prop where
  below : Below w.heap.size w wi
  size : wi.heap.size = w.heap.size + 1 + k + 1
  top : wi.rowIs w.heap.size 23 lm (topV w.heap.size n R L C k)
  done : ∀ j, j < k → j < n → wi.rowIs (w.heap.size + 1 + j) 24 (L j + 1) (fun c => .float .f64 (z2 n L Z A j c))
  cur : wi.rowIs (w.heap.size + 1 + k) 24 (L k + 1) (fun i => .float .f64 (if i < c then Z k i else 0))

section
variable {w wr : World} {lm n k c : Nat} {R : Nat → Option Addr} {L C : Nat → Nat} {Z : Nat → Nat → Nat} {A : Nat → Nat}

theorem outer_start (w : World) (lm n : Nat) (R : Nat → Option Addr) (L C : Nat → Nat) (Z : Nat → Nat → Nat) (A : Nat → Nat) : Outer w (w.alloc (.cells (madeCells #[.slice none 0 0] lm) 23)) lm n 0 R L C Z A :=
  ⟨(Below.refl _ _).alloc (Nat.le_refl _) _, by simp, (World.rowIs_made w _ lm 23).congr (fun j _ => by simp [topV]), fun j hj => absurd hj (Nat.not_lt_zero _)⟩

theorem inner_start (h : Outer w wr lm n k R L C Z A) (hk : k < n) : Inner w (wr.alloc (.cells (madeCells #[.float .f64 0] (L k + 1)) 24)) lm n k 0 R L C Z A := by
  have hs : wr.heap.size = w.heap.size + 1 + k := by rw [h.size, Nat.min_eq_left (by omega)]
  have hnew := World.rowIs_made wr (.float .f64 0) (L k + 1) 24
  rw [hs] at hnew
  exact ⟨h.below.alloc (by omega) _, by simp [hs], h.top.alloc _, fun j hj hn => (h.done j hj hn).alloc _, hnew.congr (fun i _ => by simp)⟩

theorem inner_step (h : Inner w wr lm n k c R L C Z A) : Inner w (wr.setCell ⟨w.heap.size + 1 + k, c, none⟩ (.float .f64 (Z k c))) lm n k (c + 1) R L C Z A := by
  refine ⟨h.below.setCell (by show w.heap.size ≤ w.heap.size + 1 + k; omega) _, by simp [World.setCell, h.size], h.top.setOther (by show w.heap.size ≠ w.heap.size + 1 + k; omega) _,
    fun j hj hn => (h.done j hj hn).setOther (by show w.heap.size + 1 + j ≠ w.heap.size + 1 + k; omega) _, (h.cur.set c _).congr (fun i _ => ?_)⟩
  by_cases e : i = c
  · subst e; simp
  · rw [if_neg e]
    by_cases hlt : i < c
    · rw [if_pos hlt, if_pos (by omega)]
    · rw [if_neg hlt, if_neg (by omega)]

theorem inner_done (h : Inner w wr lm n k (L k) R L C Z A) (hk : k < n) :
    Outer w ((wr.setCell ⟨w.heap.size + 1 + k, L k, none⟩ (.float .f64 (A k))).setCell ⟨w.heap.size, k, none⟩ (.slice (some ⟨w.heap.size + 1 + k, 0, none⟩) (L k + 1) (L k + 1))) lm n (k + 1) R L C Z A := by
  refine ⟨(h.below.setCell (by show w.heap.size ≤ w.heap.size + 1 + k; omega) _).setCell (Nat.le_refl _) _, ?_, ?_, fun j hj hn => ?_⟩
  · simp [World.setCell, h.size]; omega
  · refine ((h.top.setOther (by show w.heap.size ≠ w.heap.size + 1 + k; omega) _).set k _).congr (fun j _ => ?_)
    unfold topV
    by_cases e : j = k
    · subst e; simp [hk]
    · rw [if_neg e]
      by_cases hlt : j < k
      · rw [if_pos hlt, if_pos (show j < k + 1 by omega)]
      · rw [if_neg hlt, if_neg (show ¬ j < k + 1 by omega)]
  · by_cases e : j = k
    · subst e
      refine (((h.cur.set (L j) _).setOther (by show w.heap.size + 1 + j ≠ w.heap.size; omega) _)).congr (fun i hi => ?_)
      unfold z2
      by_cases e : i = L j
      · subst e; simp [hn]
      · rw [if_neg e, if_pos (show i < L j by omega), if_neg (fun h => e h.2)]
    · exact ((h.done j (by omega) hn).setOther (by show w.heap.size + 1 + j ≠ w.heap.size + 1 + k; omega) _).setOther (by show w.heap.size + 1 + j ≠ w.heap.size; omega) _

theorem outer_keep (h : Outer w wr lm n k R L C Z A) (hk : ¬ k < n) : Outer w (wr.setCell ⟨w.heap.size, k, none⟩ (.slice (R k) (L k) (C k))) lm n (k + 1) R L C Z A := by
  refine ⟨h.below.setCell (Nat.le_refl _) _, ?_, (h.top.set k _).congr (fun j _ => ?_), fun j hj hn => (h.done j (by omega) hn).setOther (by show w.heap.size + 1 + j ≠ w.heap.size; omega) _⟩
  · simp [World.setCell, h.size]; omega
  · unfold topV
    by_cases e : j = k
    · subst e; simp [hk]
    · rw [if_neg e]
      by_cases hlt : j < k
      · rw [if_pos hlt, if_pos (show j < k + 1 by omega)]
      · rw [if_neg hlt, if_neg (show ¬ j < k + 1 by omega)]

/-- All rows laid: a matrix again. -/
theorem outer_mat {m : Option Addr} {mb mo : Nat} {RB RO : Nat → Nat} (h : Outer w wr lm n lm R L C Z A) (hM : Mat w m mb mo lm R L C RB RO Z) :
    Mat wr (some ⟨w.heap.size, 0, none⟩) w.heap.size 0 lm (fun j => if j < n then some ⟨w.heap.size + 1 + j, 0, none⟩ else R j) (fun j => if j < n then L j + 1 else L j) (fun j => if j < n then L j + 1 else C j)
      (fun j => if j < n then w.heap.size + 1 + j else RB j) (fun j => if j < n then 0 else RO j) (z2 n L Z A) := by
  refine ⟨fun _ => rfl, fun r hr => ?_, fun r hr => ?_⟩
  · have := h.top.cell hr
    rw [Nat.zero_add, this]
    unfold topV
    rw [if_pos hr]
    by_cases e : r < n <;> simp [e]
  · by_cases e : r < n
    · simp only [e, if_true]
      exact ⟨fun _ => rfl, fun i hi => by rw [Nat.zero_add]; exact (h.done r hr e).cell hi⟩
    · simp only [e, if_false]
      have hv := (hM.vec r hr).below h.below
      exact ⟨hv.top, fun i hi => by rw [hv.cell i hi]; unfold z2; rw [if_neg (fun h => e h.1)]⟩
end

/-- The longer vector, when k cells are copied. -/
structure Vv (w wr : World) (lv k : Nat) (V : Nat → Nat) : Prop where
  below : Below w.heap.size w wr
  row : wr.rowIs w.heap.size 24 (lv + 1) (fun i => .float .f64 (if i < k then V i else 0))

def v2 (lv : Nat) (V : Nat → Nat) (x : Nat) (i : Nat) : Nat := if i < lv then V i else x

section
variable {w wr : World} {lv k : Nat} {V : Nat → Nat}
theorem vv_start (w : World) (lv : Nat) (V : Nat → Nat) : Vv w (w.alloc (.cells (madeCells #[.float .f64 0] (lv + 1)) 24)) lv 0 V :=
  ⟨(Below.refl _ _).alloc (Nat.le_refl _) _, (World.rowIs_made w _ (lv + 1) 24).congr (fun _ _ => by simp)⟩
theorem vv_step (h : Vv w wr lv k V) : Vv w (wr.setCell ⟨w.heap.size, k, none⟩ (.float .f64 (V k))) lv (k + 1) V := by
  refine ⟨h.below.setCell (Nat.le_refl _) _, (h.row.set k _).congr (fun i _ => ?_)⟩
  by_cases e : i = k
  · subst e; simp
  · rw [if_neg e]
    by_cases hlt : i < k
    · rw [if_pos hlt, if_pos (by omega)]
    · rw [if_neg hlt, if_neg (by omega)]
theorem vv_done (h : Vv w wr lv lv V) (x : Nat) : Below w.heap.size w (wr.setCell ⟨w.heap.size, lv, none⟩ (.float .f64 x)) ∧ Vec (wr.setCell ⟨w.heap.size, lv, none⟩ (.float .f64 x)) (some ⟨w.heap.size, 0, none⟩) w.heap.size 0 (lv + 1) (v2 lv V x) := by
  have hr : (wr.setCell ⟨w.heap.size, lv, none⟩ (.float .f64 x)).rowIs w.heap.size 24 (lv + 1) (fun i => .float .f64 (v2 lv V x i)) := by
    refine (h.row.set lv (.float .f64 x)).congr (fun i hi => ?_)
    unfold v2
    by_cases e : i = lv
    · subst e; simp
    · rw [if_neg e, if_pos (by omega), if_pos (by omega)]
  exact ⟨h.below.setCell (Nat.le_refl _) _, ⟨fun _ => rfl, fun i hi => by rw [Nat.zero_add]; exact hr.cell hi⟩⟩
end

/-- THE PLAIN LAW: what the longer row's dot product is. -/
theorem law_in (n lv j : Nat) (L : Nat → Nat) (Z : Nat → Nat → Nat) (A V : Nat → Nat) (x : Nat) (hj : j < n) (hL : L j ≤ lv) :
    dotC (z2 n L Z A j) (v2 lv V x) (L j + 1) = fadd (dotC (Z j) V (L j)) (fmul (cls (A j)) (cls (v2 lv V x (L j)))) := by
  show fadd (dotC (z2 n L Z A j) (v2 lv V x) (L j)) (fmul (cls (z2 n L Z A j (L j))) (cls (v2 lv V x (L j)))) = _
  rw [dotC_congr (A' := Z j) (B' := V) (L j) (fun i hi => by unfold z2; rw [if_neg (fun h => by omega)]) (fun i hi => by unfold v2; rw [if_pos (by omega)])]
  have : z2 n L Z A j (L j) = A j := by unfold z2; rw [if_pos ⟨hj, rfl⟩]
  rw [this]
theorem law_out (n lv j : Nat) (L : Nat → Nat) (Z : Nat → Nat → Nat) (A V : Nat → Nat) (x : Nat) (hj : ¬ j < n) (hL : L j ≤ lv) :
    dotC (z2 n L Z A j) (v2 lv V x) (L j) = dotC (Z j) V (L j) :=
  dotC_congr (L j) (fun i _ => by unfold z2; rw [if_neg (fun h => hj h.1)]) (fun i hi => by unfold v2; rw [if_pos (by omega)])
end Go.Proofs.Qxb6617596a
