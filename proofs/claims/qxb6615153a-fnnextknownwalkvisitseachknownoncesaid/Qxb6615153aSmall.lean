/- THE SMALL CONTRACTS. -/
import Derived.Test.Qxb6615153aNxB
namespace Go.Proofs.Qxb6615153a.Nk
open Go.RowKit
set_option linter.unusedVariables false

/-- It answers b; where b is c, p holds. -/
def Says (e : Ending) (w w' : World) (c : Bool) (p : Prop) : Prop := ∃ b : Bool, e = .returned (.bool b) ∧ w = w' ∧ (b = c → p)

section
variable {m : Option Addr} {mb mo N cap : Nat} {R : Nat → Option Addr} {Ln C RB RO : Nat → Nat} {M : Nat → Nat → Int} {w : World}

set_option maxHeartbeats 1600000 in
theorem zzBytes_any (h : Lv w m mb mo N R Ln C RB RO M) : Calls Try.prog 35 #[.slice m N cap] w fun e w' => Says e w w' true True := by
  by_cases hN : 1048576 < N
  · have h1 : (1048576 : Int) < (N : Int) := by omega
    go_enter Try.func35, Try.ntmps35
    go_wp2
    go_ret
    exact ⟨false, rfl, rfl, fun _ => trivial⟩
  · have h1 : ¬ (1048576 : Int) < (N : Int) := by omega
    go_enter Try.func35, Try.ntmps35
    go_wp2
    go_loopw [3, 4] (fun v3 v4 wr => ∃ (z k : Nat), k ≤ N ∧ z ≤ 1048576 ∧ v3 = .int .i64 z ∧ v4 = .int .i64 k ∧ w = wr) (fun _ v4 _ => N - (intOf v4).toNat)
    case atStart => exact ⟨N, 0, Nat.zero_le _, by omega, by go_num, rfl, rfl⟩
    case round =>
      obtain ⟨z, k, hk, hz, rfl, rfl, rfl⟩ := hrel
      by_cases hlt : k < N
      · obtain rfl := h.top (by omega)
        have c0 := h.row k hlt
        by_cases hl : 1048576 < Ln k
        · have hl' : (1048576 : Int) < (Ln k : Int) := by omega
          go_wp2
          go_ret
          exact ⟨false, rfl, rfl, fun _ => trivial⟩
        · have hl' : ¬ (1048576 : Int) < (Ln k : Int) := by omega
          by_cases hz2 : 1048576 < z + Ln k
          · have hz3 : (1048576 : Int) < (z : Int) + (Ln k : Int) := by omega
            go_wp2
            go_ret
            exact ⟨false, rfl, rfl, fun _ => trivial⟩
          · have hz3 : ¬ (1048576 : Int) < (z : Int) + (Ln k : Int) := by omega
            go_wp2
            go_roundw
            case rel => exact ⟨z + Ln k, k + 1, by omega, by omega, by go_num, by go_num, by first | rfl | trivial⟩
            case measure => simp [intOf]; omega
      · obtain rfl : k = N := by omega
        go_wp2
        go_ret
        exact ⟨true, rfl, rfl, fun _ => trivial⟩

set_option maxHeartbeats 1600000 in
theorem tooBig_any (h : Lv w m mb mo N R Ln C RB RO M) : Calls Try.prog 24 #[.slice m N cap] w fun e w' => Says e w w' false (N ≤ 4096) := by
  by_cases hN : 4096 < N
  · have h1 : (4096 : Int) < (N : Int) := by omega
    go_enter Try.func24, Try.ntmps24
    go_wp2
    go_ret
    exact ⟨true, rfl, rfl, fun e => by cases e⟩
  · have h1 : ¬ (4096 : Int) < (N : Int) := by omega
    have hN' : N ≤ 4096 := by omega
    go_enter Try.func24, Try.ntmps24
    go_wp2
    go_loopw [3, 4] (fun v3 v4 wr => ∃ (z k : Nat), k ≤ N ∧ z ≤ 1048576 ∧ v3 = .int .i64 z ∧ v4 = .int .i64 k ∧ w = wr) (fun _ v4 _ => N - (intOf v4).toNat)
    case atStart => exact ⟨0, 0, Nat.zero_le _, by omega, by go_num, rfl, rfl⟩
    case round =>
      obtain ⟨z, k, hk, hz, rfl, rfl, rfl⟩ := hrel
      by_cases hlt : k < N
      · obtain rfl := h.top (by omega)
        have c0 := h.row k hlt
        by_cases hl : 262144 < Ln k
        · have hl' : (262144 : Int) < (Ln k : Int) := by omega
          go_wp2
          go_ret
          exact ⟨true, rfl, rfl, fun e => by cases e⟩
        · have hl' : ¬ (262144 : Int) < (Ln k : Int) := by omega
          by_cases hz2 : 1048576 < z + (24 + 4 * Ln k)
          · have hz3 : (1048576 : Int) < (z : Int) + (24 + 4 * (Ln k : Int)) := by omega
            go_wp2
            go_ret
            exact ⟨true, rfl, rfl, fun e => by cases e⟩
          · have hz3 : ¬ (1048576 : Int) < (z : Int) + (24 + 4 * (Ln k : Int)) := by omega
            go_wp2
            go_roundw
            case rel => exact ⟨z + (24 + 4 * Ln k), k + 1, by omega, by omega, by go_num, by go_num, by first | rfl | trivial⟩
            case measure => simp [intOf]; omega
      · obtain rfl : k = N := by omega
        go_wp2
        go_ret
        exact ⟨false, rfl, rfl, fun _ => hN'⟩

theorem posStep_any {L i : Nat} (h : Lv w m mb mo N R Ln C RB RO M) (hN : N ≤ 4096) (hL : L < N) (hi : i < Ln L) (hn : Ln L ≤ 128) :
    Calls Try.prog 37 #[.slice m N cap, .int .i64 L, .int .i64 i] w fun e w' => e = .returned (.tuple #[.int .i64 (stepL Ln L i : Nat), .int .i64 (stepI Ln L i : Nat)]) ∧ w = w' := by
  obtain rfl := h.top (by omega)
  have c0 := h.row L hL
  have hl : (L : Int) < (N : Int) := by omega
  by_cases hlt : i + 1 < Ln L
  · have e1 : stepL Ln L i = L := by unfold stepL; rw [if_pos hlt]
    have e2 : stepI Ln L i = i + 1 := by unfold stepI; rw [if_pos hlt]
    rw [e1, e2]
    have hl2 : (i : Int) + 1 < (Ln L : Int) := by omega
    go_enter Try.func37, Try.ntmps37
    go_wp2
    go_ret2
    exact ⟨by simp, rfl⟩
  · have e1 : stepL Ln L i = L + 1 := by unfold stepL; rw [if_neg hlt]
    have e2 : stepI Ln L i = 0 := by unfold stepI; rw [if_neg hlt]
    rw [e1, e2]
    have hl2 : ¬ (i : Int) + 1 < (Ln L : Int) := by omega
    go_enter Try.func37, Try.ntmps37
    go_wp2
    go_ret2
    exact ⟨by simp, rfl⟩

/-- (a, b) does not lie before (L, i): so posBefore says. -/
theorem posBefore_any {a b L i : Nat} (h : L * 256 + i ≤ a * 256 + b) (hb : b < 256) (hi : i < 256) (ha : a < N) (hN : N ≤ 4096) (w : World) :
    Calls Try.prog 27 #[.int .i64 a, .int .i64 b, .int .i64 L, .int .i64 i, .int .i64 N] w fun e w' => e = .returned (.bool false) ∧ w = w' := by
  by_cases e : a = L
  · subst e
    have h1 : ¬ (b : Int) < (i : Int) := by omega
    have h2 : ¬ (N : Int) ≤ (a : Int) := by omega
    clear h
    go_enter Try.func27, Try.ntmps27
    go_wp2
    go_ret
    exact ⟨by first | rfl | (simp; done) | (simp; omega), rfl⟩
  · have h1 : ¬ (a : Int) = (L : Int) := by omega
    have h2 : ¬ (a : Int) < (L : Int) := by omega
    clear h hb hi
    go_enter Try.func27, Try.ntmps27
    go_wp2
    go_ret
    exact ⟨by first | rfl | (simp; done) | (simp; omega), rfl⟩
end
end Go.Proofs.Qxb6615153a.Nk
