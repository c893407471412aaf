/- THE WALKS OF ZZnewChange, ZZnewText, buildText, full, ZZfull, fullWant, appliedFit, changeFit, the two zzBytes. -/
import Derived.Test.Qxb6615153aChecked
import Derived.WalkKit
import Derived.Deep.OwnRows
import Derived.Deep.Draws
import Derived.Deep.QuietTactic
import Derived.BigQuiet
import Derived.Deep.RegionWith
namespace Go.Proofs.Qxb6615153a
open Go.RowKit

/-- A slice of ints: where it lies (if it has an element), its cells up to its length. -/
structure Row (w : World) (a : Option Addr) (b off len : Nat) (Z : Nat → Int) : Prop where
  top : 0 < len → a = some ⟨b, off, none⟩
  cell : ∀ i, i < len → w.cell? ⟨b, off + i, none⟩ = some (.int .i64 (Z i))

theorem Row.below {w w' : World} {a : Option Addr} {b off len : Nat} {Z : Nat → Int} (h : Row w a b off len Z) (hb : Below w.heap.size w w') : Row w' a b off len Z :=
  ⟨h.top, fun i hi => by rw [hb.cell (p := ⟨b, off + i, none⟩) (World.block_lt_of_cell? _ _ (h.cell i hi))]; exact h.cell i hi⟩

theorem below_drewN {B : Nat} {a w : World} (h : Below B a w) (n : Nat) : Below B a (w.drewN n) := ⟨h.os, h.tape, h.output, h.size, h.block⟩

/-- The cells of a change as ZZnewChange lays it. -/
def chg (n lo : Int) (full stub : Bool) : Array Value := #[.string ⟨#[]⟩, .int .u64 0, .int .i64 n, .pointer none, .pointer none, .slice none 0 0, .pointer none, .int .i32 0, .int .i32 0, .pointer none, .int .i64 lo, .int .i64 0, .bool false, .bool full, .bool stub]

theorem newChange_any (n lo : Int) (full stub : Bool) (w : World) :
    Calls Try.prog 20 #[.int .i64 n, .int .i64 lo, .bool full, .bool stub] w fun e w' => e = .returned (.pointer (some ⟨w.heap.size, 0, none⟩)) ∧ w' = w.alloc (.cells (chg n lo full stub) 92) := by
  go_enter Try.func20, Try.ntmps20
  go_wp2
  go_ret
  exact ⟨rfl, rfl⟩

/-- The cells of a Text as ZZnewText lays it. -/
def txt (v : Value) : Array Value := #[.pointer none, .int .i64 0, .int .i64 0, .map none, v, .int .i64 0, .slice none 0 0, .slice none 0 0, .pointer none, .bool false, .int .i64 0, .pointer none, .pointer none, .slice none 0 0, .pointer none, .int .i64 0, .slice none 0 0, .slice none 0 0]

theorem newText_any (a : Option Addr) (l c : Nat) (w : World) :
    Calls Try.prog 41 #[.slice a l c] w fun e w' => e = .returned (.pointer (some ⟨w.heap.size, 0, none⟩)) ∧ w' = w.alloc (.cells (txt (.slice a l c)) 125) := by
  go_enter Try.func41, Try.ntmps41
  go_wp2
  go_ret
  exact ⟨rfl, rfl⟩

theorem Try.info38 : (Try.prog.info? 38).map (fun i => (i.zero, i.size, i.bytes)) = some (some (.pointer none), 1, 8) := by kernel_rfl

/-- Pointers to changes, k of them laid: of the first one its place is known. -/
structure Laid (w wr : World) (len k : Nat) (z0 : Int) (f : Nat → Value) : Prop where
  below : Below w.heap.size w wr
  row : wr.rowIs w.heap.size 38 len f
  first : 0 < k → ∃ cb, f 0 = .pointer (some ⟨cb, 0, none⟩) ∧ w.heap.size < cb ∧ wr.cell? ⟨cb, 2, none⟩ = some (.int .i64 z0)

theorem laid_start (w : World) (len : Nat) (z0 : Int) : Laid w (w.alloc (.cells (madeCells #[.pointer none] len) 38)) len 0 z0 (fun _ => .pointer none) :=
  ⟨(Below.refl _ _).alloc (Nat.le_refl _) _, World.rowIs_made w _ len 38, fun h => absurd h (Nat.lt_irrefl _)⟩

theorem laid_step {w wr : World} {len k : Nat} {Z : Nat → Int} {f : Nat → Value} (h : Laid w wr len k (Z 0) f) (n : Nat) :
    Laid w (((wr.alloc (.cells (chg (Z k) (Z k) true false) 92)).setCell ⟨w.heap.size, k, none⟩ (.pointer (some ⟨wr.heap.size, 0, none⟩))).drewN n) len (k + 1) (Z 0) (fun j => if j = k then .pointer (some ⟨wr.heap.size, 0, none⟩) else f j) := by
  have hlt := h.row.lt
  have hb : Below w.heap.size w ((wr.alloc (.cells (chg (Z k) (Z k) true false) 92)).setCell ⟨w.heap.size, k, none⟩ (.pointer (some ⟨wr.heap.size, 0, none⟩))) :=
    (h.below.alloc (Nat.le_of_lt hlt) _).setCell (p := ⟨w.heap.size, k, none⟩) (Nat.le_refl _) _
  refine ⟨below_drewN hb n, (h.row.alloc _).set k _, fun _ => ?_⟩
  by_cases hk : k = 0
  · subst hk
    refine ⟨wr.heap.size, by simp, hlt, ?_⟩
    show ((wr.alloc (.cells (chg (Z 0) (Z 0) true false) 92)).setCell ⟨w.heap.size, 0, none⟩ (.pointer (some ⟨wr.heap.size, 0, none⟩))).cell? ⟨wr.heap.size, 2, none⟩ = _
    rw [World.cell?_setCell_other _ _ _ _ (fun e => by have := congrArg Addr.block e; simp at this; omega)]
    simp [chg]
  · obtain ⟨cb, h1, h2, h3⟩ := h.first (by omega)
    refine ⟨cb, ?_, h2, ?_⟩
    · show (if 0 = k then _ else f 0) = _
      rw [if_neg (by omega)]; exact h1
    · show ((wr.alloc (.cells (chg (Z k) (Z k) true false) 92)).setCell ⟨w.heap.size, k, none⟩ (.pointer (some ⟨wr.heap.size, 0, none⟩))).cell? ⟨cb, 2, none⟩ = _
      have hcb := World.block_lt_of_cell? _ _ h3
      simp only at hcb
      rw [World.cell?_setCell_other _ _ _ _ (fun e => by have := congrArg Addr.block e; simp at this; omega), World.cell?_alloc_old _ _ _ (by show cb ≠ wr.heap.size; omega)]
      exact h3

/-- What buildText hands back. -/
structure Built (w w' : World) (p : Nat) (len : Nat) (z0 : Int) : Prop where
  below : Below w.heap.size w w'
  applied : w'.cell? ⟨p, 4, none⟩ = some (.slice (some ⟨w.heap.size, 0, none⟩) len len)
  first : 0 < len → ∃ cb, w'.cell? ⟨w.heap.size, 0, none⟩ = some (.pointer (some ⟨cb, 0, none⟩)) ∧ w'.cell? ⟨cb, 2, none⟩ = some (.int .i64 z0)

theorem built_of {w wr : World} {len : Nat} {z0 : Int} {f : Nat → Value} (h : Laid w wr len len z0 f) : Built w (wr.alloc (.cells (txt (.slice (some ⟨w.heap.size, 0, none⟩) len len)) 125)) wr.heap.size len z0 := by
  have hlt := h.row.lt
  refine ⟨h.below.alloc (Nat.le_of_lt hlt) _, by simp [txt], fun hl => ?_⟩
  obtain ⟨cb, h1, h2, h3⟩ := h.first hl
  have hcb := World.block_lt_of_cell? _ _ h3
  simp only at hcb
  refine ⟨cb, ?_, ?_⟩
  · rw [World.cell?_alloc_old _ _ _ (by show w.heap.size ≠ wr.heap.size; omega), h.row.cell hl, h1]
  · rw [World.cell?_alloc_old _ _ _ (by show cb ≠ wr.heap.size; omega)]; exact h3

set_option maxHeartbeats 1600000 in
theorem buildText_any (a : Option Addr) (b off len cap : Nat) (Z : Nat → Int) (w : World) (h : Row w a b off len Z) (hl : len ≤ 1048577) :
    Calls Try.prog 19 #[.slice a len cap] w fun e w' => ∃ p, e = .returned (.pointer (some ⟨p, 0, none⟩)) ∧ Built w w' p len (Z 0) := by
  have hmk := run_make_row' (P := Try.prog) 74 38 (.pointer none) 8 Try.underlying74 Try.info38 rfl .i64 .i64 len (by omega) (by omega)
  go_enter Try.func19, Try.ntmps19
  go_wp2
  clear hmk
  go_loopw [4] (fun v wr => ∃ (k : Nat) (f : Nat → Value), k ≤ len ∧ v = .int .i64 k ∧ Laid w wr len k (Z 0) f) (fun v _ => len - (intOf v).toNat)
  case atStart => exact ⟨0, _, Nat.zero_le _, rfl, laid_start w len (Z 0)⟩
  case round =>
    obtain ⟨k, f, hk, rfl, hL⟩ := hrel
    by_cases hlt : k < len
    · obtain rfl := h.top (by omega)
      have c0 := (h.below hL.below).cell k hlt
      have r1 := fun o => (hL.row.alloc o).cell hlt
      have r2 := fun o => (hL.row.alloc o).frozen k
      go_wp2
      go_region_with (go_at_call 20; refine (newChange_any _ _ _ _ _).mono ?_; rintro e w' ⟨rfl, rfl⟩)
      all_goals
        go_wp2
        go_roundw
        case rel => exact ⟨k + 1, _, by omega, by go_num, laid_step hL 1⟩
        case measure => simp [intOf]; omega
    · obtain rfl : k = len := by omega
      go_wp2_with (go_at_call 41; refine (newText_any _ _ _ _).mono ?_; rintro e w' ⟨rfl, rfl⟩)
      go_ret
      exact ⟨wr.heap.size, rfl, built_of hL⟩

/-- What 'full' answers. -/
def fullB (full stub : Bool) (len : Nat) (lo z0 : Int) : Bool := full && (stub || decide (len = 0) || decide (z0 ≤ lo))

set_option maxHeartbeats 1600000 in
theorem full_any (w0 w : World) (p c len : Nat) (lo z0 : Int) (full stub : Bool) (hB : w.cell? ⟨p, 4, none⟩ = some (.slice (some ⟨w0.heap.size, 0, none⟩) len len)) (hl : len ≤ 1048577)
    (hf : 0 < len → ∃ cb, w.cell? ⟨w0.heap.size, 0, none⟩ = some (.pointer (some ⟨cb, 0, none⟩)) ∧ w.cell? ⟨cb, 2, none⟩ = some (.int .i64 z0))
    (c1 : w.cell? ⟨c, 10, none⟩ = some (.int .i64 lo)) (c2 : w.cell? ⟨c, 13, none⟩ = some (.bool full)) (c3 : w.cell? ⟨c, 14, none⟩ = some (.bool stub)) :
    Calls Try.prog 40 #[.pointer (some ⟨p, 0, none⟩), .pointer (some ⟨c, 0, none⟩)] w fun e w' => e = .returned (.bool (fullB full stub len lo z0)) ∧ ∃ m, w' = w.drewN m := by
  cases full
  · go_enter Try.func40, Try.ntmps40
    go_wp2
    go_quiet (fail)
    go_wp2
    go_ret
    exact ⟨rfl, _, rfl⟩
  cases stub
  · by_cases h0 : len = 0
    · have h0' : ((len : Int) == 0) = true := beq_iff_eq.2 (by omega)
      have hres : fullB true false len lo z0 = true := by simp [fullB, h0]
      rw [hres]
      clear hf h0 hres
      go_enter Try.func40, Try.ntmps40
      go_wp2
      go_quiet (fail)
      go_wp2
      go_ret
      exact ⟨rfl, _, rfl⟩
    · obtain ⟨cb, f1, f2⟩ := hf (by omega)
      have h0' : ((len : Int) == 0) = false := beq_eq_false_iff_ne.2 (by omega)
      have hpos : (0 : Int) < (len : Int) := by omega
      have hres : fullB true false len lo z0 = decide (z0 ≤ lo) := by simp [fullB, h0]
      rw [hres]
      clear hf h0 hres
      go_enter Try.func40, Try.ntmps40
      go_wp2
      go_quiet (fail)
      go_wp2
      go_ret
      exact ⟨rfl, _, rfl⟩
  · have hres : fullB true true len lo z0 = true := by simp [fullB]
    rw [hres]
    clear hf hres
    go_enter Try.func40, Try.ntmps40
    go_wp2
    go_quiet (fail)
    go_wp2
    go_ret
    exact ⟨rfl, _, rfl⟩

theorem zzFull_any (w0 w : World) (p c len : Nat) (lo z0 : Int) (full stub : Bool) (hB : w.cell? ⟨p, 4, none⟩ = some (.slice (some ⟨w0.heap.size, 0, none⟩) len len)) (hl : len ≤ 1048577)
    (hf : 0 < len → ∃ cb, w.cell? ⟨w0.heap.size, 0, none⟩ = some (.pointer (some ⟨cb, 0, none⟩)) ∧ w.cell? ⟨cb, 2, none⟩ = some (.int .i64 z0))
    (c1 : w.cell? ⟨c, 10, none⟩ = some (.int .i64 lo)) (c2 : w.cell? ⟨c, 13, none⟩ = some (.bool full)) (c3 : w.cell? ⟨c, 14, none⟩ = some (.bool stub)) :
    Calls Try.prog 18 #[.pointer (some ⟨p, 0, none⟩), .pointer (some ⟨c, 0, none⟩)] w fun e w' => e = .returned (.bool (fullB full stub len lo z0)) ∧ ∃ m, w' = w.drewN m := by
  go_enter Try.func18, Try.ntmps18
  go_wp2_with (go_at_call 40; refine (full_any w0 _ p c len lo z0 full stub hB hl hf c1 c2 c3).mono ?_; rintro e w' ⟨rfl, m, rfl⟩)
  go_ret
  exact ⟨rfl, m, rfl⟩
end Go.Proofs.Qxb6615153a
