/- THE WALKS OF fullWant, appliedFit, changeFit and the two zzBytes; the plain law. -/
import Derived.Test.Qxb6615153aFull
namespace Go.Proofs.Qxb6615153a
open Go.RowKit

/-- Strictly rising, from 0 on. -/
def Rising (len : Nat) (Z : Nat → Int) : Prop := (∀ i, i < len → 0 ≤ Z i) ∧ ∀ i, 0 < i → i < len → Z (i - 1) < Z i

theorem Rising.le {len : Nat} {Z : Nat → Int} (h : Rising len Z) (i : Nat) (hi : i < len) : Z 0 ≤ Z i := by
  induction i with
  | zero => exact Int.le_refl _
  | succ i ih =>
    have h1 := ih (by omega)
    have h2 := h.2 (i + 1) (by omega) hi
    rw [Nat.add_sub_cancel] at h2
    omega

/-- It returns a bool of which p holds; the world has only drawn. -/
def Says (p : Bool → Prop) (w : World) (e : Ending) (w' : World) : Prop := ∃ b, e = .returned (.bool b) ∧ (∃ m, w' = w.drewN m) ∧ p b

set_option maxHeartbeats 1600000 in
theorem appliedFit_any (a : Option Addr) (b off len cap : Nat) (Z : Nat → Int) (w : World) (h : Row w a b off len Z) (hl : len ≤ 1048576) :
    Calls Try.prog 16 #[.slice a len cap] w fun e w' => Says (fun r => r = true → Rising len Z) w e w' := by
  go_enter Try.func16, Try.ntmps16
  go_wp2
  go_loopw [3] (fun v wr => ∃ k n : Nat, k ≤ len ∧ v = .int .i64 k ∧ wr = w.drewN n ∧ Hid (Rising k Z)) (fun v _ => len - (intOf v).toNat)
  case atStart => exact ⟨0, 0, Nat.zero_le _, rfl, rfl, ⟨fun i hi => absurd hi (Nat.not_lt_zero _), fun i _ hi => absurd hi (Nat.not_lt_zero _)⟩⟩
  case round =>
    obtain ⟨k, n, hk, rfl, rfl, HR⟩ := hrel
    by_cases hlt : k < len
    · obtain rfl := h.top (by omega)
      have c0 := h.cell k hlt
      by_cases hneg : Z k < 0
      · clear h
        go_wp2
        go_ret
        exact ⟨false, rfl, ⟨n, rfl⟩, fun h => by cases h⟩
      · by_cases hk0 : 0 < k
        · have c1 := h.cell (k - 1) (by omega)
          have hk1 : (0 : Int) < (k : Int) := by omega
          clear h
          generalize hy : Z (k - 1) = y at *
          have HY : Hid (Z (k - 1) = y) := hy
          clear hy
          go_wp2
          go_quiet (fail)
          go_wp2
          all_goals first
            | (go_roundw
               case rel => exact ⟨k + 1, _, by omega, by go_num, rfl, ⟨fun i hi => by
                   by_cases e : i = k
                   · subst e; omega
                   · exact HR.out.1 i (by omega), fun i h0 hi => by
                   by_cases e : i = k
                   · subst e; rw [HY.out]; omega
                   · exact HR.out.2 i h0 (by omega)⟩⟩
               case measure => simp [intOf]; omega)
            | (go_ret; exact ⟨false, rfl, ⟨_, World.drewN_drewN _ _ _⟩, fun h => by cases h⟩)
        · obtain rfl : k = 0 := by omega
          rw [Nat.add_zero] at c0
          have hd : decide ((0 : Int) < ((0 : Nat) : Int)) = false := rfl
          have hl0 : (0 : Int) < (len : Int) := by omega
          clear h
          go_wp2
          go_quiet (fail)
          go_wp2
          go_roundw
          case rel => exact ⟨1, _, by omega, by go_num, rfl, ⟨fun i hi => by
              obtain rfl : i = 0 := by omega
              omega, fun i h0 hi => by omega⟩⟩
          case measure => simp [intOf]; omega
    · obtain rfl : k = len := by omega
      clear h
      go_wp2
      go_ret
      exact ⟨true, rfl, ⟨n, rfl⟩, fun _ => HR.out⟩

theorem changeFit_any (cn lo : Int) (stub : Bool) (w : World) :
    Calls Try.prog 17 #[.int .i64 cn, .int .i64 lo, .bool stub] w fun e w' => Says (fun _ => True) w e w' := by
  by_cases h1 : lo < 0
  · go_enter Try.func17, Try.ntmps17
    go_wp2
    go_ret
    exact ⟨false, rfl, ⟨0, rfl⟩, trivial⟩
  · by_cases h2 : cn < lo
    · go_enter Try.func17, Try.ntmps17
      go_wp2
      go_ret
      exact ⟨false, rfl, ⟨0, rfl⟩, trivial⟩
    · cases stub
      · go_enter Try.func17, Try.ntmps17
        go_wp2
        go_ret
        exact ⟨_, rfl, ⟨0, rfl⟩, trivial⟩
      · go_enter Try.func17, Try.ntmps17
        go_wp2
        go_ret
        exact ⟨_, rfl, ⟨0, rfl⟩, trivial⟩

theorem zzBytes15_any (a : Option Addr) (len cap : Nat) (k cn lo : Int) (full stub : Bool) (w : World) (hl : len ≤ maxLen) :
    Calls Try.prog 15 #[.slice a len cap, .int .i64 k, .int .i64 cn, .int .i64 lo, .bool full, .bool stub] w fun e w' => Says (fun _ => True) w e w' := by
  unfold maxLen at hl
  go_enter Try.func15, Try.ntmps15
  go_wp2
  all_goals (go_ret; exact ⟨_, rfl, ⟨0, rfl⟩, trivial⟩)
theorem zzBytes38_any (a : Option Addr) (len cap : Nat) (k cn lo : Int) (full stub : Bool) (w : World) (hl : len ≤ maxLen) :
    Calls Try.prog 38 #[.slice a len cap, .int .i64 k, .int .i64 cn, .int .i64 lo, .bool full, .bool stub] w fun e w' => Says (fun _ => True) w e w' := by
  unfold maxLen at hl
  go_enter Try.func38, Try.ntmps38
  go_wp2
  all_goals (go_ret; exact ⟨_, rfl, ⟨0, rfl⟩, trivial⟩)

theorem fullB_no (stub : Bool) (len : Nat) (lo z0 : Int) : fullB false stub len lo z0 = false := rfl
theorem fullB_stub (len : Nat) (lo z0 : Int) : fullB true true len lo z0 = true := by simp [fullB]
theorem fullB_zero (full stub : Bool) (lo z0 : Int) : fullB full stub 0 lo z0 = full := by simp [fullB]
theorem fullB_pos (len : Nat) (h : len ≠ 0) (lo z0 : Int) : fullB true false len lo z0 = decide (z0 ≤ lo) := by simp [fullB, h]

set_option maxHeartbeats 1600000 in
theorem fullWant_any (a : Option Addr) (b off len cap : Nat) (Z : Nat → Int) (lo : Int) (full stub : Bool) (w : World) (h : Row w a b off len Z) (hl : len ≤ 1048577) (hr : Hid (Rising len Z)) :
    Calls Try.prog 21 #[.slice a len cap, .int .i64 lo, .bool full, .bool stub] w fun e w' => e = .returned (.bool (fullB full stub len lo (Z 0))) ∧ w = w' := by
  cases full
  · rw [fullB_no]
    clear h
    go_enter Try.func21, Try.ntmps21
    go_wp2
    go_ret
    exact ⟨rfl, rfl⟩
  cases stub
  rotate_left
  · rw [fullB_stub]
    clear h
    go_enter Try.func21, Try.ntmps21
    go_wp2
    go_ret
    exact ⟨rfl, rfl⟩
  by_cases h0 : len = 0
  · subst h0
    rw [fullB_zero]
    clear h
    go_enter Try.func21, Try.ntmps21
    go_wp2
    go_ret
    exact ⟨rfl, rfl⟩
  · rw [fullB_pos len h0]
    have hd : ((len : Int) == 0) = false := beq_eq_false_iff_ne.2 (by omega)
    obtain rfl := h.top (by omega)
    by_cases hz : Z 0 ≤ lo
    · rw [decide_eq_true hz]
      have c0 := h.cell 0 (by omega)
      rw [Nat.add_zero] at c0
      have hpos : (0 : Int) < (len : Int) := by omega
      clear h
      go_enter Try.func21, Try.ntmps21
      go_wp2
      refine wp_loop_rounds 1 ?_
      rw [rounds_succ]
      go_wp2
      go_ret
      exact ⟨rfl, rfl⟩
    · rw [decide_eq_false hz]
      go_enter Try.func21, Try.ntmps21
      go_wp2
      go_loop [9] (fun v => ∃ k : Nat, Hid (k ≤ len) ∧ v = .int .i64 k) (fun v => len - (intOf v).toNat)
      case atStart => exact ⟨0, Nat.zero_le _, rfl⟩
      case round =>
        obtain ⟨k, hk, rfl⟩ := hrel
        have hkl := hk.out
        by_cases hlt : k < len
        · have c0 := h.cell k hlt
          have hz2 : ¬ Z k ≤ lo := by have := hr.out.le k hlt; omega
          clear h
          go_wp2
          go_round
          case rel => exact ⟨k + 1, (by show k + 1 ≤ len; omega), by go_num⟩
          case measure => simp [intOf]; omega
        · clear h
          go_wp2
          go_ret
          exact ⟨rfl, rfl⟩
end Go.Proofs.Qxb6615153a
