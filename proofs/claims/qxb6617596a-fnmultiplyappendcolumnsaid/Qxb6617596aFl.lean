/-
  PLAIN FACTS ON float64: two words are of one class if both are NaNs or they are the same word. Sums and products respect the classes, whatever NaN the tape hands back.
-/
import Derived.WalkKit
import Derived.Laws.FloatArith
import Derived.Deep.Draws
namespace Go.Proofs.Qxb6617596a.Fl
open Ieee

/-- The class of a word: 'none' for any NaN. -/
def cls (x : Nat) : Option Nat := if (double.read x).isNaN then none else some x
def fadd (a b : Option Nat) : Option Nat := a.bind fun x => b.bind fun y => double.add x y
def fmul (a b : Option Nat) : Option Nat := a.bind fun x => b.bind fun y => double.mul x y

theorem read_word (neg : Bool) (r : Nat) (h : r < double.signWeight) : (double.read (double.word neg r)).isNaN = decide (double.infRung < r) := by
  have e : double.word neg r % double.signWeight = r := by
    unfold Format.word
    cases neg
    · simpa using Nat.mod_eq_of_lt h
    · simp only [if_true]; rw [Nat.add_mod_left]; exact Nat.mod_eq_of_lt h
  unfold Format.read
  simp only [e]
  have hb : double.binade ≤ double.infRung := by decide
  split
  · rename_i h1; simp [Datum.isNaN]; omega
  · split
    · rename_i h1 h2; simp [Datum.isNaN]; omega
    · split
      · rename_i h1 h2 h3; simp [Datum.isNaN]; omega
      · rename_i h1 h2 h3; simp [Datum.isNaN]; omega

theorem write_not (d : Datum) (h : d.isNaN = false) : (double.read (double.write d)).isNaN = false := by
  cases d with
  | nan s f => simp [Datum.isNaN] at h
  | infinity s =>
    show (double.read (double.word s double.infRung)).isNaN = false
    rw [read_word s _ double.infRung_lt]; simp
  | number s m p =>
    show (double.read (double.nearest s m p)).isNaN = false
    unfold Format.nearest
    dsimp only
    split
    · rw [read_word s _ (Nat.two_pow_pos _)]; simp
    · rw [read_word s _ (Nat.lt_of_le_of_lt (Nat.min_le_right ..) double.infRung_lt)]
      have := Nat.min_le_right ((max (p + (m.log2 : Int) - (double.fractionBits : Int)) double.leastPlace - double.leastPlace).toNat * double.binade + Toward.even.cut s (m <<< (p - max (p + (m.log2 : Int) - (double.fractionBits : Int)) double.leastPlace).toNat) (max (p + (m.log2 : Int) - (double.fractionBits : Int)) double.leastPlace - p).toNat) double.infRung
      simp only [decide_eq_false_iff_not, Nat.not_lt]
      exact this

theorem sum_not {a b d : Datum} (h : a.sum b = some d) : a.isNaN = false ∧ b.isNaN = false ∧ d.isNaN = false := by
  cases a <;> cases b <;> simp only [Datum.sum] at h <;> try (split at h) <;> try (cases h)
  all_goals (try cases h)
  all_goals exact ⟨rfl, rfl, rfl⟩

theorem product_not {a b d : Datum} (h : a.product b = some d) : a.isNaN = false ∧ b.isNaN = false ∧ d.isNaN = false := by
  cases a <;> cases b <;> simp only [Datum.product] at h <;> try (split at h) <;> try (cases h)
  all_goals (try cases h)
  all_goals exact ⟨rfl, rfl, rfl⟩

theorem cls_not {x : Nat} (h : (double.read x).isNaN = false) : cls x = some x := by unfold cls; simp [h]
theorem cls_nan {x : Nat} (h : (double.read x).isNaN = true) : cls x = none := by unfold cls; simp [h]

theorem add_some {x y r : Nat} (h : double.add x y = some r) : cls x = some x ∧ cls y = some y ∧ cls r = some r := by
  unfold Format.add at h
  cases hs : (double.read x).sum (double.read y) with
  | none => rw [hs] at h; cases h
  | some d =>
    rw [hs] at h; cases h
    obtain ⟨h1, h2, h3⟩ := sum_not hs
    exact ⟨cls_not h1, cls_not h2, cls_not (write_not d h3)⟩

theorem mul_some {x y r : Nat} (h : double.mul x y = some r) : cls x = some x ∧ cls y = some y ∧ cls r = some r := by
  unfold Format.mul at h
  cases hs : (double.read x).product (double.read y) with
  | none => rw [hs] at h; cases h
  | some d =>
    rw [hs] at h; cases h
    obtain ⟨h1, h2, h3⟩ := product_not hs
    exact ⟨cls_not h1, cls_not h2, cls_not (write_not d h3)⟩

theorem cls_cases (x : Nat) : cls x = none ∨ cls x = some x := by
  unfold cls; split <;> simp

theorem nan_cut (x y t : Nat) : cls ((Question.nanBits .f64 x y).cut t) = none := by
  apply cls_nan
  have hm : (t / 2) % (2 ^ 52 - 1) < 2 ^ 52 - 1 := Nat.mod_lt _ (by decide)
  generalize hq : (t / 2) % (2 ^ 52 - 1) = q at hm
  have hs : double.signWeight = 2 ^ 63 := by decide
  have hi : double.infRung = 0x7ff0000000000000 := by decide
  rcases (show t % 2 = 0 ∨ t % 2 = 1 by omega) with h | h
  · have e : (Question.nanBits .f64 x y).cut t = double.word false (0x7ff0000000000000 + 1 + q) := by
      simp only [Question.cut, h, hq, Format.word]; simp
    rw [e, read_word _ _ (by rw [hs]; omega)]; rw [hi]; simp; omega
  · have e : (Question.nanBits .f64 x y).cut t = double.word true (0x7ff0000000000000 + 1 + q) := by
      simp only [Question.cut, h, hq, Format.word]; rw [hs]; simp only [if_true]; omega
    rw [e, read_word _ _ (by rw [hs]; omega)]; rw [hi]; simp; omega

/-- What 'x + y' gives in world w, and how often the tape is asked. -/
def addV (x y : Nat) (w : World) : Nat := match double.add x y with | some r => r | none => (Question.nanBits .f64 x y).cut (w.tape w.drawn (Question.nanBits .f64 x y))
def addN (x y : Nat) : Nat := match double.add x y with | some _ => 0 | none => 1
def mulV (x y : Nat) (w : World) : Nat := match double.mul x y with | some r => r | none => (Question.nanBits .f64 x y).cut (w.tape w.drawn (Question.nanBits .f64 x y))
def mulN (x y : Nat) : Nat := match double.mul x y with | some _ => 0 | none => 1

theorem cls_addV (x y : Nat) (w : World) : cls (addV x y w) = fadd (cls x) (cls y) := by
  unfold addV
  cases h : double.add x y with
  | some r =>
    obtain ⟨h1, h2, h3⟩ := add_some h
    rw [h1, h2]; simp only [h3, fadd, Option.bind_some, h]
  | none =>
    simp only [nan_cut]
    rcases cls_cases x with hx | hx <;> rcases cls_cases y with hy | hy <;> rw [hx, hy] <;> simp [fadd, h]

theorem cls_mulV (x y : Nat) (w : World) : cls (mulV x y w) = fmul (cls x) (cls y) := by
  unfold mulV
  cases h : double.mul x y with
  | some r =>
    obtain ⟨h1, h2, h3⟩ := mul_some h
    rw [h1, h2]; simp only [h3, fmul, Option.bind_some, h]
  | none =>
    simp only [nan_cut]
    rcases cls_cases x with hx | hx <;> rcases cls_cases y with hy | hy <;> rw [hx, hy] <;> simp [fmul, h]

theorem run_add {P : Program} (w : World) (t : TypeId) (x y : Nat) : (binOp .add t (.float .f64 x) (.float .f64 y)).run P w = .ok (.float .f64 (addV x y w)) (w.drewN (addN x y)) := by
  unfold addV addN
  cases h : double.add x y with
  | some r => exact run_float_arith w .add t .f64 x y r h
  | none =>
    have h' : FloatKind.f64.format.add x y = none := h
    simp [binOp, Op.floatArith, h', Question.forced]
    rfl

theorem run_mul {P : Program} (w : World) (t : TypeId) (x y : Nat) : (binOp .mul t (.float .f64 x) (.float .f64 y)).run P w = .ok (.float .f64 (mulV x y w)) (w.drewN (mulN x y)) := by
  unfold mulV mulN
  cases h : double.mul x y with
  | some r => exact run_float_arith w .mul t .f64 x y r h
  | none =>
    have h' : FloatKind.f64.format.mul x y = none := h
    simp [binOp, Op.floatArith, h', Question.forced]
    rfl

/-- A float stored into a cell: the kit's Laws/Entries.lean has it for integers, bools, strings, pointers and slices. -/
theorem run_store_float (P : Program) (w : World) (a : Addr) (m : Mode) (k : FloatKind) (b : Nat) : (store a (.float k b) m).run P w = stored P w a (.float k b) m := run_store P w a _ m rfl

theorem order_self (x : Nat) (h : cls x = some x) : FloatKind.f64.format.order x x = some .eq := by
  show (double.read x).order (double.read x) = some .eq
  have hn : (double.read x).isNaN = false := by
    cases hh : (double.read x).isNaN with
    | false => rfl
    | true => rw [cls_nan hh] at h; cases h
  cases hd : double.read x with
  | nan s f => rw [hd] at hn; simp [Datum.isNaN] at hn
  | infinity s => simp [Datum.order]
  | number s m i => simp [Datum.order]

theorem order_nan (x y : Nat) (h : cls x = none) : FloatKind.f64.format.order x y = none := by
  show (double.read x).order (double.read y) = none
  have hn : (double.read x).isNaN = true := by
    cases hh : (double.read x).isNaN with
    | true => rfl
    | false => rw [cls_not hh] at h; cases h
  cases hd : double.read x with
  | nan s f => cases double.read y <;> simp [Datum.order]
  | infinity s => rw [hd] at hn; simp [Datum.isNaN] at hn
  | number s m i => rw [hd] at hn; simp [Datum.isNaN] at hn

/-- The dot product's class: from the left, each step rounded. -/
def dotC (A B : Nat → Nat) : Nat → Option Nat
  | 0 => cls 0
  | k + 1 => fadd (dotC A B k) (fmul (cls (A k)) (cls (B k)))

theorem dotC_congr {A B A' B' : Nat → Nat} (n : Nat) (ha : ∀ i, i < n → A i = A' i) (hb : ∀ i, i < n → B i = B' i) : dotC A B n = dotC A' B' n := by
  induction n with
  | zero => rfl
  | succ n ih =>
    unfold dotC
    rw [ih (fun i hi => ha i (by omega)) (fun i hi => hb i (by omega)), ha n (by omega), hb n (by omega)]

theorem cls_zero : cls 0 = some 0 := by decide
end Go.Proofs.Qxb6617596a.Fl
