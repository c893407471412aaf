/- COUNTING PLACES; what a round of the walk writes. -/
import Derived.Test.Qxb6615153aVis
namespace Go.Proofs.Qxb6615153a.Nk
open Go.RowKit
set_option linter.unusedVariables false

def cnt (p : Nat → Bool) : Nat → Nat
  | 0 => 0
  | n + 1 => cnt p n + (if p n = true then 1 else 0)

theorem cnt_le (p : Nat → Bool) : ∀ n, cnt p n ≤ n
  | 0 => Nat.le_refl _
  | n + 1 => by
    have := cnt_le p n
    unfold cnt
    by_cases h : p n = true
    · rw [if_pos h]; omega
    · rw [if_neg h]; omega
theorem cnt_sub {p q : Nat → Bool} (h : ∀ x, p x = true → q x = true) : ∀ n, cnt p n ≤ cnt q n
  | 0 => Nat.le_refl _
  | n + 1 => by
    have := cnt_sub h n
    unfold cnt
    by_cases h1 : p n = true
    · rw [if_pos h1, if_pos (h n h1)]; omega
    · rw [if_neg h1]
      by_cases h2 : q n = true
      · rw [if_pos h2]; omega
      · rw [if_neg h2]; omega
theorem cnt_gap {p : Nat → Bool} {c : Nat} : ∀ d, c ≤ d → (∀ x, c ≤ x → x < d → p x = false) → cnt p d = cnt p c
  | 0, hd, _ => by obtain rfl : c = 0 := by omega
                   rfl
  | d + 1, hd, h => by
    by_cases e : c = d + 1
    · rw [e]
    · have := cnt_gap d (by omega) (fun x h1 h2 => h x h1 (by omega))
      have h2 := h d (by omega) (by omega)
      show cnt p d + (if p d = true then 1 else 0) = cnt p c
      rw [h2, this]
      rfl
theorem cnt_mono {p : Nat → Bool} {c : Nat} : ∀ d, c ≤ d → cnt p c ≤ cnt p d
  | 0, hd => by obtain rfl : c = 0 := by omega
                exact Nat.le_refl _
  | d + 1, hd => by
    by_cases e : c = d + 1
    · rw [e]; exact Nat.le_refl _
    · have := cnt_mono (p := p) (c := c) d (by omega)
      show cnt p c ≤ cnt p d + (if p d = true then 1 else 0)
      omega
theorem cnt_hit {p : Nat → Bool} {x : Nat} (h : p x = true) : cnt p (x + 1) = cnt p x + 1 := by
  show cnt p x + (if p x = true then 1 else 0) = _
  rw [if_pos h]
theorem cnt_miss {p : Nat → Bool} {x : Nat} (h : p x = false) : cnt p (x + 1) = cnt p x := by
  show cnt p x + (if p x = true then 1 else 0) = _
  rw [h]; rfl

/-- Code x is a place; a known one. -/
def vB (N : Nat) (Ln : Nat → Nat) (x : Nat) : Bool := decide (x / 256 < N) && decide (x % 256 < Ln (x / 256))
def kB (N : Nat) (Ln : Nat → Nat) (M : Nat → Nat → Int) (x : Nat) : Bool := vB N Ln x && decide (M (x / 256) (x % 256) % 2 = 1)

section
variable {N : Nat} {Ln : Nat → Nat} {M : Nat → Nat → Int} {sl : Nat → Nat → Nat} {L i : Nat}
theorem code_div {L i : Nat} (hi : i < 256) : (L * 256 + i) / 256 = L ∧ (L * 256 + i) % 256 = i := by omega
theorem vB_iff (hi : i < 256) : vB N Ln (L * 256 + i) = true ↔ L < N ∧ i < Ln L := by
  unfold vB
  rw [(code_div hi).1, (code_div hi).2]
  simp
theorem kB_iff (hi : i < 256) : kB N Ln M (L * 256 + i) = true ↔ L < N ∧ i < Ln L ∧ M L i % 2 = 1 := by
  unfold kB
  rw [Bool.and_eq_true, vB_iff hi, (code_div hi).1, (code_div hi).2]
  simp [and_assoc]
theorem kB_sub : ∀ x, kB N Ln M x = true → vB N Ln x = true := fun x h => by
  unfold kB at h
  exact (Bool.and_eq_true _ _ ▸ h).1
theorem code_split (x : Nat) : x = x / 256 * 256 + x % 256 := by omega
theorem vB_gap (h : Fit N Ln M sl) (hL : L < N) {x : Nat} (h1 : L * 256 + Ln L ≤ x) (h2 : x < (L + 1) * 256) : vB N Ln x = false := by
  have hd : x / 256 = L := by omega
  have hm : Ln L ≤ x % 256 := by omega
  unfold vB
  rw [hd]
  simp
  intro _
  omega
theorem kB_of_none {c d x : Nat} (h : NoneIn N Ln M c d) (h1 : c ≤ x) (h2 : x < d) : kB N Ln M x = false := by
  cases e : kB N Ln M x with
  | false => rfl
  | true =>
    have hs := code_split x
    have hx : x % 256 < 256 := Nat.mod_lt _ (by decide)
    rw [hs] at e
    obtain ⟨a1, a2, a3⟩ := (kB_iff hx).1 e
    have := h _ _ a1 a2 (by omega) (by omega)
    omega
/-- From a place on nothing but itself up to the next. -/
theorem cnt_step (h : Fit N Ln M sl) (hL : L < N) (hi : i < Ln L) : cnt (kB N Ln M) (stepL Ln L i * 256 + stepI Ln L i) = cnt (kB N Ln M) (L * 256 + i + 1) := by
  refine cnt_gap _ (step_gt h hL hi) (fun x h1 h2 => ?_)
  cases e : kB N Ln M x with
  | false => rfl
  | true =>
    have hs := code_split x
    have hx : x % 256 < 256 := Nat.mod_lt _ (by decide)
    rw [hs] at e
    obtain ⟨a1, a2, a3⟩ := (kB_iff hx).1 e
    have := step_gap h hL hi a1 a2 (by omega)
    omega
end
end Go.Proofs.Qxb6615153a.Nk
