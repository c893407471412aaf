/- THE PROOF OF 'Rows.FnNextKnownWalkVisitsEachKnownOnceSaid': the argument opened, the walk, the argument read again. -/
import Derived.Test.Qxb6615153aRows
import Derived.Test.Qxb6615153aLaw7
import Derived.WalkKit
import Derived.ProofKit
import Derived.OpenShut
import Derived.ChangeOld
import Derived.Below
import Derived.Deep.Slices
namespace Go.Proofs.Qxb6615153a.fnNextKnownWalkVisitsEachKnownOnce
open Go.ChangeShapes Go.WideShapes Go.ChangeAt Go.RowKit Go.Deep Go.Proofs.Qxb6615153a.Nk
set_option linter.unusedVariables false

theorem own : ownKnob Try.prog.godebug = none := by kernel_rfl
theorem laidOut : laidOutB Try.prog = true := by kernel_rfl

/-- A row of the input: its cells up to its length, the numbers Z. -/
structure Line (w : World) (p : Option Addr) (b off len : Nat) (Z : Nat → Int) : Prop where
  top : 0 < len → p = some ⟨b, off, none⟩
  cell : ∀ i, i < len → w.cell? ⟨b, off + i, none⟩ = some (.int .u32 (Z i))
  rng : ∀ i, i < len → 0 ≤ Z i ∧ Z i ≤ 4294967295

section
variable {H : Type} {enc : TypeId × Value → H} {P : Program} {w : World} {base : Nat} {held : Bool}

theorem wf_u32 {n : Int} (h : (Lit.int .u32 n).wf = true) : 0 ≤ n ∧ n ≤ 4294967295 := by
  have h1 : IntKind.u32.min = 0 := by decide
  have h2 : IntKind.u32.max = 4294967295 := by decide
  simp [Lit.wf] at h
  omega

/-- A cell that is there lies at a plain address. -/
theorem plain_at {a : Addr} {n : Nat} {F : Nat → Value} (h : ∀ i, i < n → w.cell? (a.add i) = some (F i)) (hp : 0 < n) : ∃ b off, a = ⟨b, off, none⟩ ∧ ∀ j, j < n → w.cell? ⟨b, off + j, none⟩ = some (F j) := by
  obtain ⟨b, off, spot⟩ := a
  have hspot : spot = none := by simpa [Addr.add] using World.cell?_spot (h 0 hp)
  subst hspot
  exact ⟨b, off, rfl, fun j hj => by rw [← Go.WideShapes.add_plain]; exact h j hj⟩

/-- A SLICE OF NUMBERS, OPENED: its cells up to its length. -/
theorem open_line {t e : TypeId} {fuel : Nat} {p : Option Addr} {len cap : Nat} {x : DataW H × List MemPlace} (ht : P.underlying t = some (.slice e)) (he : P.underlying e = some (.int .u32)) (hc : P.cellsOf e = 1)
    (h : DataW.trod enc P w base (fun _ => true) held fuel t [.slice p len cap] = some x) : ∃ b off Z, Line w p b off len Z := by
  rcases open_slice1 ht hc h with ⟨h0, _⟩ | ⟨a, len', cap', m, n, V, D, Pl, h0, hb, hl, hm, hmm, rfl, hx⟩
  · simp at h0
    obtain ⟨rfl, rfl, rfl⟩ := h0
    exact ⟨0, 0, fun _ => 0, ⟨fun h => absurd h (Nat.lt_irrefl _), fun i hi => absurd hi (Nat.not_lt_zero _), fun i hi => absurd hi (Nat.not_lt_zero _)⟩⟩
  · simp at h0
    obtain ⟨rfl, rfl, rfl⟩ := h0
    simp only [if_true] at hmm
    subst hmm
    obtain ⟨Z, hZ⟩ := choose_lt (α := Int) (p := fun i z => V i = .int .u32 z ∧ 0 ≤ z ∧ z ≤ 4294967295) (n := m) (fun i hi => by
      obtain ⟨b, h1, _, h3⟩ := DataW.trod_int he (hx i hi).2
      exact ⟨b, by simpa using h1, wf_u32 h3⟩)
    by_cases h0 : len = 0
    · exact ⟨0, 0, Z, ⟨fun h => by omega, fun i hi => by omega, fun i hi => by omega⟩⟩
    · obtain ⟨b, off, rfl, hcell⟩ := plain_at (n := len) (F := fun i => .int .u32 (Z i)) (fun i hi => by rw [(hx i (by omega)).1, (hZ i (by omega)).1]) (by omega)
      exact ⟨b, off, Z, ⟨fun _ => rfl, hcell, fun i hi => (hZ i (by omega)).2⟩⟩

theorem lv_none (w : World) (p : Option Addr) : ∃ b off R Ln C RB RO M, Lv w p b off 0 R Ln C RB RO M :=
  ⟨0, 0, fun _ => none, fun _ => 0, fun _ => 0, fun _ => 0, fun _ => 0, fun _ _ => 0, ⟨fun h => absurd h (Nat.lt_irrefl _), fun i hi => absurd hi (Nat.not_lt_zero _), fun i hi => absurd hi (Nat.not_lt_zero _), fun i hi => absurd hi (Nat.not_lt_zero _), fun i hi => absurd hi (Nat.not_lt_zero _)⟩⟩

/-- A SLICE OF SLICES OF NUMBERS, OPENED. -/
theorem open_levels {t e q : TypeId} {fuel : Nat} {p : Option Addr} {len cap : Nat} {x : DataW H × List MemPlace} (ht : P.underlying t = some (.slice e)) (he : P.underlying e = some (.slice q)) (hq : P.underlying q = some (.int .u32))
    (ce : P.cellsOf e = 1) (cq : P.cellsOf q = 1) (h : DataW.trod enc P w base (fun _ => true) held fuel t [.slice p len cap] = some x) :
    ∃ b off R Ln C RB RO M, Lv w p b off len R Ln C RB RO M := by
  rcases open_slice1 ht ce h with ⟨h0, _⟩ | ⟨a, len', cap', m, n, V, D, Pl, h0, hb, hl, hm, hmm, rfl, hx⟩
  · simp at h0
    obtain ⟨rfl, rfl, rfl⟩ := h0
    exact lv_none w none
  · simp at h0
    obtain ⟨rfl, rfl, rfl⟩ := h0
    simp only [if_true] at hmm
    subst hmm
    obtain ⟨y, hy⟩ := choose_lt (α := Option Addr × Nat × Nat × Nat × Nat × (Nat → Int)) (p := fun r y => V r = .slice y.1 y.2.1 y.2.2.1 ∧ Line w y.1 y.2.2.2.1 y.2.2.2.2.1 y.2.1 y.2.2.2.2.2) (n := m) (fun r hr => by
      obtain ⟨hc1, hc2⟩ := hx r hr
      obtain ⟨u, l, c, hu⟩ : ∃ u l c, V r = .slice u l c := by
        rcases open_slice1 he cq hc2 with ⟨h0, _⟩ | ⟨a', l', c', _, _, _, _, _, h0, _⟩
        · exact ⟨none, 0, 0, by simpa using h0⟩
        · exact ⟨some a', l', c', by simpa using h0⟩
      rw [hu] at hc2
      obtain ⟨b, off, Z, hv⟩ := open_line he hq cq hc2
      exact ⟨(u, l, c, b, off, Z), hu, hv⟩)
    have hrow : ∀ r, r < len → w.cell? (a.add r) = some (.slice (y r).1 (y r).2.1 (y r).2.2.1) := fun r hr => by rw [(hx r (by omega)).1, (hy r (by omega)).1]
    by_cases h0 : len = 0
    · subst h0
      exact lv_none w _
    · obtain ⟨b, off, rfl, hcell⟩ := plain_at (n := len) (F := fun r => .slice (y r).1 (y r).2.1 (y r).2.2.1) hrow (by omega)
      exact ⟨b, off, fun r => (y r).1, fun r => (y r).2.1, fun r => (y r).2.2.1, fun r => (y r).2.2.2.1, fun r => (y r).2.2.2.2.1, fun r => (y r).2.2.2.2.2, ⟨fun _ => rfl, hcell, fun r hr => (hy r (by omega)).2.top, fun r hr => (hy r (by omega)).2.cell, fun r hr => (hy r (by omega)).2.rng⟩⟩
end

set_option maxRecDepth 100000 in
theorem lifted (os : Os) (started : os.Started) (H : Type) (enc : TypeId × Value → H) :
    ReturnsInHanded {} Try.checked os 7 .any (Rows.fnNextKnownWalkVisitsEachKnownOnceSpec.pre6 enc Try.prog Try.f7 Rows.fnNextKnownWalkVisitsEachKnownOnceRow.domain false) (Rows.fnNextKnownWalkVisitsEachKnownOnceSpec.post enc Try.prog Try.f7 false true false false) := by
  refine returnsInHanded_of_change (C := Try.checked) own started (by kernel_rfl) Try.func7
    (ChangeSpec.witness6 (enc := enc) (C := Try.checked) false ⟨#[], #[.slice none 0 0], []⟩ 8 (by kernel_rfl) (by kernel_rfl) (by kernel_rfl) (by kernel_rfl)) ?_
  intro W base args ds gs before hval0 hW hcnd _
  have hval : ∀ (j : Nat) t v, Try.f7.params[j]? = some t → args[j]? = some v → Value.okWide Try.prog W .any base t v := hval0
  have hW' := hW
  obtain ⟨p, q, hA0, hV, rfl, hfz, hnd⟩ := hW
  have hA : DataW.TrodAll enc Try.prog W 0 (fun _ => true) true Try.f7.params.toList args.toList ds p := hA0
  rw [Try.params7] at hA hval
  obtain ⟨v0, vs0, d0, ds0, p0, q0, hargs, rfl, rfl, h0, r0⟩ := trodAll_cons hA
  obtain ⟨rfl, rfl, rfl⟩ := trodAll_nil r0
  obtain rfl : args = #[v0] := by cases args; simp_all
  obtain ⟨rfl, rfl⟩ := trodVars_none hV
  obtain ⟨a0, len0, cap0, rfl⟩ := okWide_slice Try.underlying43 (hval 0 43 v0 rfl rfl)
  have k0 := h0
  have lt0 : ∀ x ∈ p0, x.block < W.heap.size := by obtain ⟨m, hm⟩ := k0; exact DataW.trod_lt m _ _ _ hm
  obtain ⟨f0, g0⟩ := h0
  obtain ⟨mb, mo, R, Ln, C, RB, RO, M, hM⟩ := open_levels Try.underlying43 Try.underlying64 Try.underlying65 (by kernel_rfl) (by kernel_rfl) (by simpa [Value.cells] using g0)
  clear hA0 hval0
  refine (law_any hM).mono fun e W' ⟨he, bel⟩ => ?_
  subst he
  exact ⟨_, rfl, _, _, _, [], _, [], hW', trodAll_mk1 (shut_bool Try.underlying4 _), (trodAll_cons_mk (Below.trod laidOut (by kernel_rfl) (of_decide_eq_true (by kernel_rfl)) k0 bel lt0) trodAll_mk0), rfl, bel.frame _, fun h => by cases h⟩

theorem over : Rows.fnNextKnownWalkVisitsEachKnownOnceRow.holds Try.pinned (OpenSpec.ofChange Rows.fnNextKnownWalkVisitsEachKnownOnceSpec) :=
  OpenClaim.holds_of_wide 7 Try.f7 rfl rfl rfl rfl rfl rfl rfl ⟨rfl, rfl, rfl, rfl, rfl⟩ rfl rfl rfl rfl rfl (by kernel_rfl) Try.func7 (by kernel_rfl)
    (of_decide_eq_true (by kernel_rfl)) (by unfold Func.isWrapper; first | (rw [if_pos (by decide +kernel)]; kernel_rfl) | (rw [if_neg (by decide +kernel)]; exact ⟨rfl, rfl⟩))
    (fun os started H enc _ => lifted os started H enc)

/-- THE STATEMENT. -/
theorem proved : Rows.FnNextKnownWalkVisitsEachKnownOnceSaid := over
end Go.Proofs.Qxb6615153a.fnNextKnownWalkVisitsEachKnownOnce
