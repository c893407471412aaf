/- THE WALK OF 'dot': the class of the dot product; the world: only draws. -/
import Derived.Test.Qxb6617596aChecked
import Derived.Test.Qxb6617596aFl
import Derived.WalkKit
import Derived.RegionTactic
import Derived.BigRegion
namespace Go.Proofs.Qxb6617596a
open Go.RowKit Fl

/-- A slice of floats: where it lies (if it has an element), its cells up to its length. -/
structure Vec (w : World) (a : Option Addr) (b off len : Nat) (Z : Nat → Nat) : Prop where
  top : 0 < len → a = some ⟨b, off, none⟩
  cell : ∀ i, i < len → w.cell? ⟨b, off + i, none⟩ = some (.float .f64 (Z i))

set_option maxHeartbeats 800000 in
theorem dot_pos (b off b' off' : Nat) (la ca lb cb : Nat) (A B : Nat → Nat) (w : World) (hla : la ≤ 2097152) (hle : la ≤ lb)
    (hA : ∀ i, i < la → w.cell? ⟨b, off + i, none⟩ = some (.float .f64 (A i))) (hB : ∀ i, i < la → w.cell? ⟨b', off' + i, none⟩ = some (.float .f64 (B i))) :
    Calls Try.prog 12 #[.slice (some ⟨b, off, none⟩) la ca, .slice (some ⟨b', off', none⟩) lb cb] w fun e w' => ∃ r, e = .returned (.float .f64 r) ∧ cls r = dotC A B la ∧ ∃ n, w' = w.drewN n := by
  have hadd := @run_add Try.prog
  have hmul := @run_mul Try.prog
  go_enter Try.func12, Try.ntmps12
  go_wp2
  go_loopw [5, 9] (fun s i wr => ∃ k r n : Nat, k ≤ la ∧ i = .int .i64 k ∧ s = .float .f64 r ∧ cls r = dotC A B k ∧ wr = w.drewN n) (fun _ i _ => la - (intOf i).toNat)
  case atStart => exact ⟨0, 0, 0, Nat.zero_le _, rfl, rfl, rfl, rfl⟩
  case round =>
    obtain ⟨k, r, n, hk, rfl, rfl, hr, rfl⟩ := hrel
    have HR : Hid (cls r = dotC A B k) := hr
    clear hr
    by_cases hlt : k < la
    · have hlb : k < lb := by omega
      have cA := hA k hlt
      have cB := hB k hlt
      go_wp2
      go_region
      all_goals
        go_wp2
        go_roundw
        case rel => exact ⟨k + 1, _, _, by omega, by go_num, rfl, by rw [cls_addV, cls_mulV, HR.out]; rfl, rfl⟩
        case measure => simp [intOf]; omega
    · go_wp2
      go_ret
      exact ⟨r, rfl, by rw [HR.out, show k = la by omega], n, rfl⟩

set_option maxHeartbeats 400000 in
theorem dot_zero (a b : Option Addr) (ca lb cb : Nat) (w : World) :
    Calls Try.prog 12 #[.slice a 0 ca, .slice b lb cb] w fun e w' => e = .returned (.float .f64 0) ∧ w' = w := by
  go_enter Try.func12, Try.ntmps12
  go_wp2
  refine wp_loop_rounds 1 ?_
  rw [rounds_succ]
  go_wp2
  go_ret
  exact ⟨rfl, rfl⟩

theorem dot_any (a b : Option Addr) (ab ao bb bo : Nat) (la ca lb cb : Nat) (A B : Nat → Nat) (w : World) (hla : la ≤ 2097152) (hle : la ≤ lb) (hA : Vec w a ab ao la A) (hB : Vec w b bb bo lb B) :
    Calls Try.prog 12 #[.slice a la ca, .slice b lb cb] w fun e w' => ∃ r, e = .returned (.float .f64 r) ∧ cls r = dotC A B la ∧ ∃ n, w' = w.drewN n := by
  by_cases h0 : la = 0
  · subst h0
    exact (dot_zero a b ca lb cb w).mono fun e w' ⟨he, hw⟩ => ⟨0, he, rfl, 0, by rw [hw]; rfl⟩
  · obtain rfl := hA.top (by omega)
    obtain rfl := hB.top (by omega)
    exact dot_pos ab ao bb bo la ca lb cb A B w hla hle hA.cell (fun i hi => hB.cell i (by omega))
end Go.Proofs.Qxb6617596a
