/- THE PROOF OF 'Rows.FnMultiplyAppendColumnSaid': the arguments opened, the walk, the arguments read again. -/
import Derived.Test.Qxb6617596aRows
import Derived.Test.Qxb6617596aLaw
import Derived.WalkKit
import Derived.ProofKit
import Derived.OpenShut
import Derived.ChangeOld
import Derived.Below
import Derived.Deep.Slices
namespace Go.Proofs.Qxb6617596a.fnMultiplyAppendColumn
open Go.ChangeShapes Go.WideShapes Go.ChangeAt Go.RowKit Go.Deep
set_option linter.unusedVariables false

theorem own : ownKnob Try.prog.godebug = none := by kernel_rfl
theorem laidOut : laidOutB Try.prog = true := by kernel_rfl

section
variable {H : Type} {enc : TypeId × Value → H} {P : Program} {w : World} {base : Nat} {held : Bool}

theorem trod_float {spare : Nat → Bool} {fuel : Nat} {t : TypeId} {cs : List Value} {x : DataW H × List MemPlace} {k : FloatKind} (ht : P.underlying t = some (.float k)) (h : DataW.trod enc P w base spare held fuel t cs = some x) : ∃ b, cs = [.float k b] := by
  cases fuel with
  | zero => simp [DataW.trod] at h
  | succ n =>
    unfold DataW.trod at h
    rw [ht] at h
    split at h <;> simp_all

/-- A cell that is there lies at a plain address. -/
theorem plain_at {a : Addr} {n : Nat} {F : Nat → Value} (h : ∀ i, i < n → w.cell? (a.add i) = some (F i)) (hp : 0 < n) : ∃ b off, a = ⟨b, off, none⟩ ∧ ∀ j, j < n → w.cell? ⟨b, off + j, none⟩ = some (F j) := by
  obtain ⟨b, off, spot⟩ := a
  have hspot : spot = none := by simpa [Addr.add] using World.cell?_spot (h 0 hp)
  subst hspot
  exact ⟨b, off, rfl, fun j hj => by rw [← Go.WideShapes.add_plain]; exact h j hj⟩

/-- A SLICE OF FLOATS, OPENED: its cells up to its length. -/
theorem open_vec {t e : TypeId} {fuel : Nat} {p : Option Addr} {len cap : Nat} {x : DataW H × List MemPlace} (ht : P.underlying t = some (.slice e)) (he : P.underlying e = some (.float .f64)) (hc : P.cellsOf e = 1)
    (h : DataW.trod enc P w base (fun _ => true) held fuel t [.slice p len cap] = some x) : (∃ b off Z, Vec w p b off len Z) ∧ (p = none → len = 0 ∧ cap = 0) ∧ len ≤ maxLen := by
  rcases open_slice1 ht hc h with ⟨h0, _⟩ | ⟨a, len', cap', m, n, V, D, Pl, h0, hb, hl, hm, hmm, rfl, hx⟩
  · simp at h0
    obtain ⟨rfl, rfl, rfl⟩ := h0
    exact ⟨⟨0, 0, fun _ => 0, ⟨fun h => absurd h (Nat.lt_irrefl _), fun i hi => absurd hi (Nat.not_lt_zero _)⟩⟩, fun _ => ⟨rfl, rfl⟩, Nat.zero_le _⟩
  · simp at h0
    obtain ⟨rfl, rfl, rfl⟩ := h0
    simp only [if_true] at hmm
    subst hmm
    refine ⟨?_, (fun h => by cases h), by omega⟩
    obtain ⟨Z, hZ⟩ := choose_lt (α := Nat) (p := fun i z => V i = .float .f64 z) (n := m) (fun i hi => by
      obtain ⟨b, h1⟩ := trod_float he (hx i hi).2
      exact ⟨b, by simpa using h1⟩)
    by_cases h0 : len = 0
    · exact ⟨0, 0, Z, ⟨fun h => by omega, fun i hi => by omega⟩⟩
    · obtain ⟨b, off, rfl, hcell⟩ := plain_at (n := len) (F := fun i => .float .f64 (Z i)) (fun i hi => by rw [(hx i (by omega)).1, hZ i (by omega)]) (by omega)
      exact ⟨b, off, Z, ⟨fun _ => rfl, hcell⟩⟩

/-- A SLICE OF SLICES OF FLOATS, OPENED. -/
theorem open_mat {t e q : TypeId} {fuel : Nat} {p : Option Addr} {len cap : Nat} {x : DataW H × List MemPlace} (ht : P.underlying t = some (.slice e)) (he : P.underlying e = some (.slice q)) (hq : P.underlying q = some (.float .f64))
    (ce : P.cellsOf e = 1) (cq : P.cellsOf q = 1) (h : DataW.trod enc P w base (fun _ => true) held fuel t [.slice p len cap] = some x) :
    ∃ b off R L C RB RO Z, Mat w p b off len R L C RB RO Z ∧ len ≤ maxLen ∧ ∀ r, r < len → L r ≤ maxLen := by
  rcases open_slice1 ht ce h with ⟨h0, _⟩ | ⟨a, len', cap', m, n, V, D, Pl, h0, hb, hl, hm, hmm, rfl, hx⟩
  · simp at h0
    obtain ⟨rfl, rfl, rfl⟩ := h0
    exact ⟨0, 0, fun _ => none, fun _ => 0, fun _ => 0, fun _ => 0, fun _ => 0, fun _ _ => 0, ⟨fun h => absurd h (Nat.lt_irrefl _), fun i hi => absurd hi (Nat.not_lt_zero _), fun i hi => absurd hi (Nat.not_lt_zero _)⟩, Nat.zero_le _, fun i hi => absurd hi (Nat.not_lt_zero _)⟩
  · simp at h0
    obtain ⟨rfl, rfl, rfl⟩ := h0
    simp only [if_true] at hmm
    subst hmm
    obtain ⟨y, hy⟩ := choose_lt (α := Option Addr × Nat × Nat × Nat × Nat × (Nat → Nat)) (p := fun r y => V r = .slice y.1 y.2.1 y.2.2.1 ∧ Vec w y.1 y.2.2.2.1 y.2.2.2.2.1 y.2.1 y.2.2.2.2.2 ∧ y.2.1 ≤ maxLen) (n := m) (fun r hr => by
      obtain ⟨hc1, hc2⟩ := hx r hr
      obtain ⟨u, l, c, hu⟩ : ∃ u l c, V r = .slice u l c := by
        rcases open_slice1 he cq hc2 with ⟨h0, _⟩ | ⟨a', l', c', _, _, _, _, _, h0, _⟩
        · exact ⟨none, 0, 0, by simpa using h0⟩
        · exact ⟨some a', l', c', by simpa using h0⟩
      rw [hu] at hc2
      obtain ⟨⟨b, off, Z, hv⟩, _, hl⟩ := open_vec he hq cq hc2
      exact ⟨(u, l, c, b, off, Z), hu, hv, hl⟩)
    have hrow : ∀ r, r < len → w.cell? (a.add r) = some (.slice (y r).1 (y r).2.1 (y r).2.2.1) := fun r hr => by rw [(hx r (by omega)).1, (hy r (by omega)).1]
    by_cases h0 : len = 0
    · subst h0
      exact ⟨0, 0, fun _ => none, fun _ => 0, fun _ => 0, fun _ => 0, fun _ => 0, fun _ _ => 0, ⟨fun h => absurd h (Nat.lt_irrefl _), fun i hi => absurd hi (Nat.not_lt_zero _), fun i hi => absurd hi (Nat.not_lt_zero _)⟩, Nat.zero_le _, fun i hi => absurd hi (Nat.not_lt_zero _)⟩
    · obtain ⟨b, off, rfl, hcell⟩ := plain_at (n := len) (F := fun r => .slice (y r).1 (y r).2.1 (y r).2.2.1) hrow (by omega)
      exact ⟨b, off, fun r => (y r).1, fun r => (y r).2.1, fun r => (y r).2.2.1, fun r => (y r).2.2.2.1, fun r => (y r).2.2.2.2.1, fun r => (y r).2.2.2.2.2, ⟨fun _ => rfl, hcell, fun r hr => (hy r (by omega)).2.1⟩, by omega, fun r hr => (hy r (by omega)).2.2⟩
end

set_option maxRecDepth 100000 in
theorem lifted (os : Os) (started : os.Started) (H : Type) (enc : TypeId × Value → H) :
    ReturnsInHanded {} Try.checked os 3 .any (Rows.fnMultiplyAppendColumnSpec.pre6 enc Try.prog Try.f3 Rows.fnMultiplyAppendColumnRow.domain false) (Rows.fnMultiplyAppendColumnSpec.post enc Try.prog Try.f3 false true false false) := by
  refine returnsInHanded_of_change (C := Try.checked) own started (by kernel_rfl) Try.func3
    (ChangeSpec.witness6 (enc := enc) (C := Try.checked) false ⟨#[], #[.slice none 0 0, .slice none 0 0, .slice none 0 0, .float .f64 0], []⟩ 8 (by kernel_rfl) (by kernel_rfl) (by kernel_rfl) (by kernel_rfl)) ?_
  intro W base args ds gs before hval0 hW hcnd _
  have hval : ∀ (j : Nat) t v, Try.f3.params[j]? = some t → args[j]? = some v → Value.okWide Try.prog W .any base t v := hval0
  have hW' := hW
  obtain ⟨p, q, hA0, hV, rfl, hfz, hnd⟩ := hW
  have hA : DataW.TrodAll enc Try.prog W 0 (fun _ => true) true Try.f3.params.toList args.toList ds p := hA0
  rw [Try.params3] at hA hval
  obtain ⟨v0, vs0, d0, ds0, p0, q0, hargs, rfl, rfl, h0, r0⟩ := trodAll_cons hA
  obtain ⟨v1, vs1, d1, ds1, p1, q1, rfl, rfl, rfl, h1, r1⟩ := trodAll_cons r0
  obtain ⟨v2, vs2, d2, ds2, p2, q2, rfl, rfl, rfl, h2, r2⟩ := trodAll_cons r1
  obtain ⟨v3, vs3, d3, ds3, p3, q3, rfl, rfl, rfl, h3, r3⟩ := trodAll_cons r2
  obtain ⟨rfl, rfl, rfl⟩ := trodAll_nil r3
  obtain rfl : args = #[v0, v1, v2, v3] := by cases args; simp_all
  obtain ⟨rfl, rfl⟩ := trodVars_none hV
  obtain ⟨a0, len0, cap0, rfl⟩ := okWide_slice Try.underlying22 (hval 0 22 v0 rfl rfl)
  obtain ⟨a1, len1, cap1, rfl⟩ := okWide_slice Try.underlying23 (hval 1 23 v1 rfl rfl)
  obtain ⟨a2, len2, cap2, rfl⟩ := okWide_slice Try.underlying23 (hval 2 23 v2 rfl rfl)
  obtain ⟨x, rfl, rfl, rfl, w3⟩ := open_float Try.underlying24 (hval 3 24 v3 rfl rfl) h3
  have k0 := h0
  have k1 := h1
  have k2 := h2
  have lt0 : ∀ x ∈ p0, x.block < W.heap.size := by obtain ⟨m, hm⟩ := k0; exact DataW.trod_lt m _ _ _ hm
  have lt1 : ∀ x ∈ p1, x.block < W.heap.size := by obtain ⟨m, hm⟩ := k1; exact DataW.trod_lt m _ _ _ hm
  have lt2 : ∀ x ∈ p2, x.block < W.heap.size := by obtain ⟨m, hm⟩ := k2; exact DataW.trod_lt m _ _ _ hm
  obtain ⟨f0, g0⟩ := h0
  obtain ⟨f1, g1⟩ := h1
  obtain ⟨f2, g2⟩ := h2
  obtain ⟨mb, mo, R, L, C, RB, RO, Z, hM, hlm, hL⟩ := open_mat Try.underlying22 Try.underlying23 Try.underlying24 (by kernel_rfl) (by kernel_rfl) (by simpa [Value.cells] using g0)
  obtain ⟨⟨vb, vo, V, hV1⟩, hvn, hlv⟩ := open_vec Try.underlying23 Try.underlying24 (by kernel_rfl) (by simpa [Value.cells] using g1)
  obtain ⟨⟨ab, ao, A, hA1⟩, _, hla⟩ := open_vec Try.underlying23 Try.underlying24 (by kernel_rfl) (by simpa [Value.cells] using g2)
  clear hA0 hval0
  refine (law_any a0 a1 a2 mb mo len0 cap0 vb vo len1 cap1 ab ao len2 cap2 x R L C RB RO Z V A W hM hV1 hA1 hvn hlm hlv hla hL).mono fun e W' ⟨he, bel⟩ => ?_
  subst he
  exact ⟨_, rfl, _, _, _, [], _, [], hW', trodAll_mk1 (shut_bool Try.underlying4 _), (trodAll_cons_mk (Below.trod laidOut (by kernel_rfl) (of_decide_eq_true (by kernel_rfl)) k0 bel lt0) (trodAll_cons_mk (Below.trod laidOut (by kernel_rfl) (of_decide_eq_true (by kernel_rfl)) k1 bel lt1) (trodAll_cons_mk (Below.trod laidOut (by kernel_rfl) (of_decide_eq_true (by kernel_rfl)) k2 bel lt2) (trodAll_cons_mk (shut_float Try.underlying24 w3) trodAll_mk0)))), rfl, bel.frame _, fun h => by cases h⟩

theorem over : Rows.fnMultiplyAppendColumnRow.holds Try.pinned (OpenSpec.ofChange Rows.fnMultiplyAppendColumnSpec) :=
  OpenClaim.holds_of_wide 3 Try.f3 rfl rfl rfl rfl rfl rfl rfl ⟨rfl, rfl, rfl, rfl, rfl⟩ rfl rfl rfl rfl rfl (by kernel_rfl) Try.func3 (by kernel_rfl)
    (of_decide_eq_true (by kernel_rfl)) (by unfold Func.isWrapper; first | (rw [if_pos (by decide +kernel)]; kernel_rfl) | (rw [if_neg (by decide +kernel)]; exact ⟨rfl, rfl⟩))
    (fun os started H enc _ => lifted os started H enc)

/-- THE STATEMENT. -/
theorem proved : Rows.FnMultiplyAppendColumnSaid := over
end Go.Proofs.Qxb6617596a.fnMultiplyAppendColumn
