/- newVisited, idxesKept. -/
import Derived.Test.Qxb6615153aFitW
namespace Go.Proofs.Qxb6615153a.Nk
open Go.RowKit
set_option linter.unusedVariables false

theorem Try.info62 : (Try.prog.info? 62).map (fun i => (i.zero, i.size, i.bytes)) = some (some (.slice none 0 0), 1, 24) := by kernel_rfl
theorem Try.info4 : (Try.prog.info? 4).map (fun i => (i.zero, i.size, i.bytes)) = some (some (.bool false), 1, 1) := by kernel_rfl

/-- The table of what was visited, its first k rows made. -/
structure Vis (w : World) (vb N k : Nat) (Ln VB : Nat → Nat) (V : Nat → Nat → Bool) : Prop where
  rows : Own w vb 62 N (fun j => if j < k then .slice (some ⟨VB j, 0, none⟩) (Ln j) (Ln j) else .slice none 0 0)
  row : ∀ j, j < k → Own w (VB j) 4 (Ln j) (fun i => .bool (V j i))
  inj : ∀ j, j < k → ∀ l, l < k → VB j = VB l → j = l
  lo : ∀ j, j < k → vb < VB j

section
variable {m : Option Addr} {mb mo N cap : Nat} {R : Nat → Option Addr} {Ln C RB RO : Nat → Nat} {M : Nat → Nat → Int} {w : World}

theorem vis_start (w : World) (N : Nat) (Ln VB : Nat → Nat) (V : Nat → Nat → Bool) : Vis (w.alloc (.cells (madeCells #[.slice none 0 0] N) 62)) w.heap.size N 0 Ln VB V :=
  ⟨(Own.of_row (World.rowIs_made w (.slice none 0 0) N 62)).congr (fun i _ => by simp), fun j hj => absurd hj (Nat.not_lt_zero _), fun j hj => absurd hj (Nat.not_lt_zero _), fun j hj => absurd hj (Nat.not_lt_zero _)⟩

theorem vis_step {vb k : Nat} {VB : Nat → Nat} (h : Vis w vb N k Ln VB (fun _ _ => false)) (hk : k < N) :
    Vis ((w.alloc (.cells (madeCells #[.bool false] (Ln k)) 4)).setCell ⟨vb, k, none⟩ (.slice (some ⟨w.heap.size, 0, none⟩) (Ln k) (Ln k))) vb N (k + 1) Ln (upd VB k w.heap.size) (fun _ _ => false) := by
  have hvb := h.rows.lt
  refine ⟨((h.rows.alloc _).set k _).congr (fun j _ => ?_), fun j hj => ?_, fun j hj l hl e => ?_, fun j hj => ?_⟩
  · unfold upd
    by_cases e : j = k
    · subst e; simp
    · rw [if_neg e]
      by_cases hlt : j < k
      · rw [if_pos hlt, if_pos (by omega), if_neg e]
      · rw [if_neg hlt, if_neg (by omega)]
  · unfold upd
    by_cases e : j = k
    · subst e
      simp only [if_true]
      exact ((Own.of_row (World.rowIs_made w (.bool false) (Ln j) 4)).setOther (by show w.heap.size ≠ vb; omega) _).congr (fun i _ => by simp)
    · simp only [e, if_false]
      exact ((h.row j (by omega)).alloc _).setOther (by show VB j ≠ vb; have := h.lo j (by omega); omega) _
  · have hlt : ∀ a, a < k → VB a < w.heap.size := fun a ha => (h.row a ha).lt
    unfold upd at e
    by_cases e1 : j = k
    · by_cases e2 : l = k
      · omega
      · rw [if_pos e1, if_neg e2] at e
        have := hlt l (by omega); omega
    · by_cases e2 : l = k
      · rw [if_neg e1, if_pos e2] at e
        have := hlt j (by omega); omega
      · rw [if_neg e1, if_neg e2] at e
        exact h.inj j (by omega) l (by omega) e
  · unfold upd
    by_cases e : j = k
    · rw [if_pos e]; exact hvb
    · rw [if_neg e]; exact h.lo j (by omega)

set_option maxHeartbeats 1600000 in
theorem newVisited_any (h : Lv w m mb mo N R Ln C RB RO M) (hN : N ≤ 4096) (hn : ∀ j, j < N → Ln j ≤ 128) :
    Calls Try.prog 33 #[.slice m N cap] w fun e w' => e = .returned (.slice (some ⟨w.heap.size, 0, none⟩) N N) ∧ Below w.heap.size w w' ∧ ∃ VB, Vis w' w.heap.size N N Ln VB (fun _ _ => false) := by
  have hmk1 := run_make_row' (P := Try.prog) 60 62 (.slice none 0 0) 24 Try.underlying60 Try.info62 rfl .i64 .i64 N (by omega) (by omega)
  go_enter Try.func33, Try.ntmps33
  go_wp2
  clear hmk1
  go_loopw [4] (fun v wr => ∃ (k : Nat) (VB : Nat → Nat), k ≤ N ∧ v = .int .i64 k ∧ Below w.heap.size w wr ∧ Vis wr w.heap.size N k Ln VB (fun _ _ => false)) (fun v _ => N - (intOf v).toNat)
  case atStart => exact ⟨0, fun _ => 0, Nat.zero_le _, rfl, (Below.refl _ _).alloc (Nat.le_refl _) _, vis_start w N Ln _ _⟩
  case round =>
    obtain ⟨k, VB, hk, rfl, hbw, hV⟩ := hrel
    by_cases hlt : k < N
    · obtain rfl := h.top (by omega)
      have c0 := (h.below hbw).row k hlt
      have hnk := hn k hlt
      have hmk := run_make_row' (P := Try.prog) 62 4 (.bool false) 1 Try.underlying62 Try.info4 rfl .i64 .i64 (Ln k) (by omega) (by omega)
      have hvl := hV.rows.lt
      have r1 := fun o => (hV.rows.alloc o).cell hlt
      have r2 := fun o => (hV.rows.alloc o).frozen k
      have R0 := vis_step hV hlt
      rw [World.setCell_alloc_past _ _ _ _ hvl] at R0
      have R1 : Hid (_) := R0
      have HBW : Hid (Below w.heap.size w wr) := hbw
      clear hV hbw R0
      go_wp2
      go_roundw
      case rel => exact ⟨k + 1, _, by omega, by go_num, (HBW.out.setCell (p := ⟨w.heap.size, k, none⟩) (Nat.le_refl _) _).alloc (by have := HBW.out.size; simpa [World.setCell] using this) _, R1.out⟩
      case measure => simp [intOf]; omega
    · obtain rfl : k = N := by omega
      have HV : Hid (Vis wr w.heap.size k k Ln VB (fun _ _ => false)) := hV
      have HBW : Hid (Below w.heap.size w wr) := hbw
      clear hV hbw
      go_wp2
      go_ret
      exact ⟨rfl, HBW.out, VB, HV.out⟩

set_option maxHeartbeats 3200000 in
/-- A visited item's hint is its index, every other item's its slot: so idxesKept says. -/
theorem idxesKept_any {nb lb rb vb : Nat} {nd its : Nat → Nat} {it : Nat → Nat → Nat} {hint : Nat → Nat → Int} {VB : Nat → Nat} {V : Nat → Nat → Bool} {k0 : Nat} (h : Lv w m mb mo N R Ln C RB RO M) (hN : N ≤ 4096) (hF : Fit N Ln M (slotOf M))
    (hB : Built w nb lb rb N k0 Ln M nd its it hint) (hV : Vis w vb N N Ln VB V) (hh : ∀ L, L < N → ∀ i, i < Ln L → hint L (slotOf M L i) = if V L i = true then (i : Int) else (slotOf M L i : Int)) :
    Calls Try.prog 34 #[.slice m N cap, .slice (some ⟨lb, 0, none⟩) N N, .slice (some ⟨vb, 0, none⟩) N N] w fun e w' => e = .returned (.bool true) ∧ w = w' := by
  go_enter Try.func34, Try.ntmps34
  go_wp2
  go_loopw [7] (fun v wr => ∃ k : Nat, k ≤ N ∧ v = .int .i64 k ∧ w = wr) (fun v _ => N - (intOf v).toNat)
  case atStart => exact ⟨0, Nat.zero_le _, rfl, rfl⟩
  case round =>
    obtain ⟨k, hk, rfl, rfl⟩ := hrel
    by_cases hlt : k < N
    · obtain rfl := h.top (by omega)
      have c0 := h.row k hlt
      obtain ⟨hn0, hn1⟩ := hF.n k hlt
      rw [h.rtop k hlt hn0] at c0
      have v0 := hV.rows.cell hlt
      rw [if_pos hlt] at v0
      have l0 := hB.lists.cell hlt
      go_wp2
      go_loopw [8] (fun v wr => ∃ i : Nat, i ≤ Ln k ∧ v = .int .i64 i ∧ w = wr) (fun v _ => Ln k - (intOf v).toNat)
      case atStart => exact ⟨0, Nat.zero_le _, rfl, by first | rfl | trivial⟩
      case round =>
        obtain ⟨i, hi, rfl, rfl⟩ := hrel
        by_cases hil : i < Ln k
        · have c1 := h.cell k hlt i hil
          have r1 := hF.rng k hlt i hil
          obtain ⟨hs1, hs2⟩ := hF.slot k hlt i hil
          have v1 := (hV.row k hlt).cell hil
          have t1 := (hB.leaf k hlt).its.cell hs2
          have hit := (hB.leaf k hlt).items _ hs2
          rw [hh k hlt i hil] at hit
          have HIT : Hid (Item w (it k (slotOf M k i)) rb ((k : Int) * 256 + (slotOf M k i : Nat)) (if V k i = true then (i : Int) else (slotOf M k i : Int))) := hit
          have hi2 : (i : Int) < (Ln k : Int) := by omega
          have hs3 : (slotOf M k i : Int) < (Ln k : Int) := by omega
          simp only [ptr] at t1
          clear hit
          by_cases hv : V k i = true
          · rw [hv] at v1 HIT
            have hit' : Item w (it k (slotOf M k i)) rb ((k : Int) * 256 + (slotOf M k i : Nat)) (i : Int) := HIT.out
            have HI2 : Hid (Item w (it k (slotOf M k i)) rb ((k : Int) * 256 + (slotOf M k i : Nat)) (i : Int)) := hit'
            clear HIT hit'
            go_wp2_with fail
            refine (itemIdx_any _ _ _ _ _ HI2.out).mono ?_
            rintro e w' ⟨rfl, rfl⟩
            go_wp2
            go_roundw
            case rel => exact ⟨i + 1, by omega, by go_num, by first | rfl | trivial⟩
            case measure => simp [intOf]; omega
          · have hv' : V k i = false := by simpa using hv
            rw [hv'] at v1 HIT
            have hit' : Item w (it k (slotOf M k i)) rb ((k : Int) * 256 + (slotOf M k i : Nat)) (slotOf M k i : Int) := HIT.out
            have HI2 : Hid (Item w (it k (slotOf M k i)) rb ((k : Int) * 256 + (slotOf M k i : Nat)) (slotOf M k i : Int)) := hit'
            clear HIT hit'
            go_wp2_with fail
            refine (itemIdx_any _ _ _ _ _ HI2.out).mono ?_
            rintro e w' ⟨rfl, rfl⟩
            go_wp2
            go_roundw
            case rel => exact ⟨i + 1, by omega, by go_num, by first | rfl | trivial⟩
            case measure => simp [intOf]; omega
        · obtain rfl : i = Ln k := by omega
          go_wp2
          go_roundw
          case rel => exact ⟨k + 1, by omega, by go_num, by first | rfl | trivial⟩
          case measure => simp [intOf]; omega
    · obtain rfl : k = N := by omega
      go_wp2
      go_ret
      exact ⟨rfl, rfl⟩
end
end Go.Proofs.Qxb6615153a.Nk
