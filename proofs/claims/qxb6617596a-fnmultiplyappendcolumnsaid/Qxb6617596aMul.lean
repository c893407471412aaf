/- THE WALK OF 'multiply' and 'ZZMultiply'. -/
import Derived.Test.Qxb6617596aDot
import Derived.Deep.OwnRows
namespace Go.Proofs.Qxb6617596a
open Go.RowKit Fl
attribute [local go_sem] run_store_float

theorem Try.info24 : (Try.prog.info? 24).map (fun i => (i.zero, i.size, i.bytes)) = some (some (.float .f64 0), 1, 8) := by kernel_rfl
theorem Try.info23 : (Try.prog.info? 23).map (fun i => (i.zero, i.size, i.bytes)) = some (some (.slice none 0 0), 1, 24) := by kernel_rfl

/-- A slice of slices of floats. -/
structure Mat (w : World) (m : Option Addr) (mb mo lm : Nat) (R : Nat → Option Addr) (L C RB RO : Nat → Nat) (Z : Nat → Nat → Nat) : Prop where
  top : 0 < lm → m = some ⟨mb, mo, none⟩
  row : ∀ r, r < lm → w.cell? ⟨mb, mo + r, none⟩ = some (.slice (R r) (L r) (C r))
  vec : ∀ r, r < lm → Vec w (R r) (RB r) (RO r) (L r) (Z r)

theorem Vec.below {w w' : World} {a : Option Addr} {b off len : Nat} {Z : Nat → Nat} (h : Vec w a b off len Z) (hb : Below w.heap.size w w') : Vec w' a b off len Z :=
  ⟨h.top, fun i hi => by rw [hb.cell (p := ⟨b, off + i, none⟩) (World.block_lt_of_cell? _ _ (h.cell i hi))]; exact h.cell i hi⟩

theorem Mat.below {w w' : World} {m : Option Addr} {mb mo lm : Nat} {R : Nat → Option Addr} {L C RB RO : Nat → Nat} {Z : Nat → Nat → Nat} (h : Mat w m mb mo lm R L C RB RO Z) (hb : Below w.heap.size w w') : Mat w' m mb mo lm R L C RB RO Z :=
  ⟨h.top, fun i hi => by rw [hb.cell (p := ⟨mb, mo + i, none⟩) (World.block_lt_of_cell? _ _ (h.row i hi))]; exact h.row i hi, fun r hr => (h.vec r hr).below hb⟩

theorem below_drewN {B : Nat} {a w : World} (h : Below B a w) (n : Nat) : Below B a (w.drewN n) := ⟨h.os, h.tape, h.output, h.size, h.block⟩

/-- What is made so far. -/
structure Out (w wr : World) (lm k : Nat) (O : Nat → Nat) (D : Nat → Option Nat) : Prop where
  below : Below w.heap.size w wr
  row : wr.rowIs w.heap.size 24 lm (fun j => .float .f64 (O j))
  val : ∀ j, j < k → cls (O j) = D j

theorem out_start (w : World) (lm : Nat) (D : Nat → Option Nat) : Out w (w.alloc (.cells (madeCells #[.float .f64 0] lm) 24)) lm 0 (fun _ => 0) D :=
  ⟨(Below.refl _ _).alloc (Nat.le_refl _) _, World.rowIs_made w _ lm 24, fun _ hj => absurd hj (Nat.not_lt_zero _)⟩

theorem out_step {w wr : World} {lm k : Nat} {O : Nat → Nat} {D : Nat → Option Nat} (h : Out w wr lm k O D) (n r : Nat) (hr : cls r = D k) : Out w ((wr.drewN n).setCell ⟨w.heap.size, k, none⟩ (.float .f64 r)) lm (k + 1) (fun j => if j = k then r else O j) D := by
  refine ⟨(below_drewN h.below n).setCell (Nat.le_refl _) _, ?_, fun j hj => ?_⟩
  · have h' : (wr.drewN n).rowIs w.heap.size 24 lm (fun j => .float .f64 (O j)) := h.row
    refine (h'.set k (.float .f64 r)).congr fun j _ => ?_
    by_cases e : j = k <;> simp [e]
  · by_cases e : j = k
    · subst e; simpa using hr
    · simpa [e] using h.val j (by omega)

set_option maxHeartbeats 800000 in
theorem multiply_any (m v : Option Addr) (mb mo lm cm vb vo lv cv : Nat) (R : Nat → Option Addr) (L C RB RO : Nat → Nat) (Z : Nat → Nat → Nat) (V : Nat → Nat) (w : World)
    (hlm : lm ≤ 1048576) (hL : ∀ r, r < lm → L r ≤ 2097152 ∧ L r ≤ lv) (hM : Mat w m mb mo lm R L C RB RO Z) (hV : Vec w v vb vo lv V) :
    Calls Try.prog 11 #[.slice m lm cm, .slice v lv cv] w fun e w' => e = .returned (.slice (some ⟨w.heap.size, 0, none⟩) lm lm) ∧ ∃ O, Out w w' lm lm O (fun i => dotC (Z i) V (L i)) := by
  have hmk := run_make_row' (P := Try.prog) 23 24 (.float .f64 0) 8 Try.underlying23 Try.info24 rfl .i64 .i64 lm (by omega) (by omega)
  go_enter Try.func11, Try.ntmps11
  go_wp2
  clear hmk
  go_loopw [13] (fun i wr => ∃ (k : Nat) (O : Nat → Nat), k ≤ lm ∧ i = .int .i64 k ∧ Out w wr lm k O (fun i => dotC (Z i) V (L i))) (fun i _ => lm - (intOf i).toNat)
  case atStart => exact ⟨0, _, Nat.zero_le _, rfl, out_start w lm _⟩
  case round =>
    obtain ⟨k, O, hk, rfl, hO⟩ := hrel
    by_cases hlt : k < lm
    · obtain rfl := hM.top (by omega)
      have hM' := hM.below hO.below
      have hV' := hV.below hO.below
      have c0 := hM'.row k hlt
      have c1 := hO.row.cell hlt
      have c2 := hO.row.frozen k
      have hl := hL k hlt
      go_wp2_with (go_at_call 12; refine (dot_any (R k) v (RB k) (RO k) vb vo (L k) (C k) lv cv (Z k) V _ hl.1 hl.2 (hM'.vec k hlt) hV').mono ?_; rintro e w' ⟨r, rfl, hr, n, rfl⟩)
      go_roundw
      case rel => exact ⟨k + 1, _, by omega, by go_num, out_step hO n r hr⟩
      case measure => simp [intOf]; omega
    · go_wp2
      go_ret
      exact ⟨rfl, O, by rw [show k = lm by omega] at hO; exact hO⟩

theorem zzMultiply_any (m v : Option Addr) (mb mo lm cm vb vo lv cv : Nat) (R : Nat → Option Addr) (L C RB RO : Nat → Nat) (Z : Nat → Nat → Nat) (V : Nat → Nat) (w : World)
    (hlm : lm ≤ 1048576) (hL : ∀ r, r < lm → L r ≤ 2097152 ∧ L r ≤ lv) (hM : Mat w m mb mo lm R L C RB RO Z) (hV : Vec w v vb vo lv V) :
    Calls Try.prog 8 #[.slice m lm cm, .slice v lv cv] w fun e w' => e = .returned (.slice (some ⟨w.heap.size, 0, none⟩) lm lm) ∧ ∃ O, Out w w' lm lm O (fun i => dotC (Z i) V (L i)) := by
  go_enter Try.func8, Try.ntmps8
  go_wp2_with (go_at_call 11; refine (multiply_any m v mb mo lm cm vb vo lv cv R L C RB RO Z V _ hlm hL hM hV).mono ?_; rintro e w' ⟨rfl, O, hO⟩)
  go_ret
  exact ⟨rfl, O, hO⟩
end Go.Proofs.Qxb6617596a
