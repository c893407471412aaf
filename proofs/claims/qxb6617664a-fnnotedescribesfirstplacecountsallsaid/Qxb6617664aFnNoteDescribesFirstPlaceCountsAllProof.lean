/- THE PROOF OF 'Rows.FnNoteDescribesFirstPlaceCountsAllSaid': the arguments opened, the walk, the arguments read again. -/
import Derived.Test.Qxb6617664aRows
import Derived.Test.Qxb6617664aLaw
import Derived.WalkKit
import Derived.ProofKit
import Derived.OpenShut
import Derived.ChangeOld
import Derived.Below
import Derived.Deep.Slices
namespace Go.Proofs.Qxb6617664a.fnNoteDescribesFirstPlaceCountsAll
open Go.ChangeShapes Go.WideShapes Go.ChangeAt Go.RowKit Go.Deep
set_option linter.unusedVariables false

theorem own : ownKnob Try.prog.godebug = none := by kernel_rfl
theorem laidOut : laidOutB Try.prog = true := by kernel_rfl
theorem Try.cells22 : Try.prog.cellsOf 22 = 10 := by kernel_rfl
theorem Try.cells23 : Try.prog.cellsOf 23 = 10 := by kernel_rfl
theorem Try.cells9 : Try.prog.cellsOf 9 = 1 := by kernel_rfl
theorem Try.cells3 : Try.prog.cellsOf 3 = 1 := by kernel_rfl
theorem Try.cells27 : Try.prog.cellsOf 27 = 4 := by kernel_rfl

section
variable {H : Type} {enc : TypeId × Value → H} {P : Program} {w : World} {base : Nat} {held : Bool}

theorem okWide_array {r : Reach} {b0 : Nat} {t e : TypeId} {n : Nat} {v : Value} (ht : P.underlying t = some (.array n e)) (h : Value.okWide P w r b0 t v) : ∃ cs, v = .agg cs ∧ cs.size = P.cellsOf t := by
  simp only [Value.okWide, ht] at h
  obtain ⟨cs, h1, h2, _⟩ := h
  exact ⟨cs, h1, h2⟩

/-- An array of ten one-cell elements: each cell with its reading. -/
theorem open_ten {spare : Nat → Bool} {fuel : Nat} {t e : TypeId} {cs : Array Value} {x : DataW H × List MemPlace} (ht : P.underlying t = some (.array 10 e)) (hc : P.cellsOf e = 1) (hs : cs.size = 10) (h : DataW.trod enc P w base spare held fuel t cs.toList = some x) :
    ∀ i, i < 10 → ∃ v m y, cs[i]? = some v ∧ DataW.trod enc P w base spare held m e [v] = some y := by
  obtain ⟨xs, m, _, _, _, hl, hx⟩ := DataW.trod_array ht h
  intro i hi
  have := hx i hi
  rw [hc, Nat.mul_one, List.getElem?_eq_getElem (by omega)] at this
  have hi' : i < cs.toList.length := by simp; omega
  have e1 : List.take 1 (List.drop i cs.toList) = [cs[i]'(by omega)] := by
    rw [List.drop_eq_getElem_cons hi']
    simp
  rw [e1] at this
  exact ⟨cs[i]'(by omega), m, _, by simp [hs, hi], this⟩

theorem open_strs10 {spare : Nat → Bool} {fuel : Nat} {t e : TypeId} {cs : Array Value} {x : DataW H × List MemPlace} (ht : P.underlying t = some (.array 10 e)) (he : P.underlying e = some .string) (hc : P.cellsOf e = 1) (hs : cs.size = 10) (h : DataW.trod enc P w base spare held fuel t cs.toList = some x) :
    ∃ F, Strs cs F := by
  obtain ⟨F, hF⟩ := choose_lt (α := ByteArray) (p := fun i s => cs[i]? = some (.string s)) (n := 10) (fun i hi => by
    obtain ⟨v, m, y, h1, h2⟩ := open_ten ht hc hs h i hi
    obtain ⟨s, h3, _⟩ := DataW.trod_string he h2
    simp at h3
    exact ⟨s, by rw [h1, h3]⟩)
  exact ⟨F, hs, hF⟩
theorem open_ints10 {spare : Nat → Bool} {fuel : Nat} {t e : TypeId} {cs : Array Value} {x : DataW H × List MemPlace} (ht : P.underlying t = some (.array 10 e)) (he : P.underlying e = some (.int .i64)) (hc : P.cellsOf e = 1) (hs : cs.size = 10) (h : DataW.trod enc P w base spare held fuel t cs.toList = some x) :
    ∃ F, Ints cs F := by
  obtain ⟨F, hF⟩ := choose_lt (α := Int) (p := fun i s => cs[i]? = some (.int .i64 s)) (n := 10) (fun i hi => by
    obtain ⟨v, m, y, h1, h2⟩ := open_ten ht hc hs h i hi
    obtain ⟨s, h3, _⟩ := DataW.trod_int he h2
    simp at h3
    exact ⟨s, by rw [h1, h3]⟩)
  exact ⟨F, hs, hF⟩

/-- A slice of structs of four cells: two ints, two strings. -/
theorem open_places {t e : TypeId} {f0 f1 f2 f3 : Field} {fuel : Nat} {p : Option Addr} {len cap : Nat} {x : DataW H × List MemPlace} (ht : P.underlying t = some (.slice e)) (he : P.underlying e = some (.struct #[f0, f1, f2, f3]))
    (ce : P.cellsOf e = 4) (o0 : f0.offset = 0) (o1 : f1.offset = 1) (o2 : f2.offset = 2) (o3 : f3.offset = 3) (c0 : P.cellsOf f0.type = 1) (c1 : P.cellsOf f1.type = 1) (c2 : P.cellsOf f2.type = 1) (c3 : P.cellsOf f3.type = 1)
    (u0 : P.underlying f0.type = some (.int .i64)) (u1 : P.underlying f1.type = some (.int .i64)) (u2 : P.underlying f2.type = some .string) (u3 : P.underlying f3.type = some .string)
    (h : DataW.trod enc P w base (fun _ => true) held fuel t [.slice p len cap] = some x) :
    ∃ pb po Ru Le Fi Pr, Places w p pb po len Ru Le Fi Pr ∧ len ≤ maxLen := by
  rcases open_slice ht h with ⟨h0, _⟩ | ⟨a, len', cap', m, n, D, Pl, h0, hb, hl, hm, hmm, rfl, hx⟩
  · simp at h0
    obtain ⟨rfl, rfl, rfl⟩ := h0
    exact ⟨0, 0, fun _ => 0, fun _ => 0, fun _ => ByteArray.empty, fun _ => ByteArray.empty, ⟨fun h => absurd h (Nat.lt_irrefl _), fun i hi => absurd hi (Nat.not_lt_zero _), fun i hi => absurd hi (Nat.not_lt_zero _), fun i hi => absurd hi (Nat.not_lt_zero _), fun i hi => absurd hi (Nat.not_lt_zero _)⟩, Nat.zero_le _⟩
  · simp at h0
    obtain ⟨rfl, rfl, rfl⟩ := h0
    simp only [if_true] at hmm
    subst hmm
    obtain ⟨q, hq⟩ := choose_lt (α := Int × Int × ByteArray × ByteArray) (p := fun i q => w.cell? (a.add (i * 4)) = some (.int .i64 q.1) ∧ w.cell? (a.add (i * 4 + 1)) = some (.int .i64 q.2.1) ∧ w.cell? (a.add (i * 4 + 2)) = some (.string q.2.2.1) ∧ w.cell? (a.add (i * 4 + 3)) = some (.string q.2.2.2)) (n := m) (fun i hi => by
      obtain ⟨cs', h1, h2⟩ := hx i hi
      rw [ce] at h1
      obtain ⟨_, hlen, hcell⟩ := World.cells?_some h1
      obtain ⟨xs, k, hk, hxy, _, hxl, hf⟩ := DataW.trod_struct he h2
      match xs, hxl, cs', hlen with
      | [y0, y1, y2, y3], _, [v0, v1, v2, v3], _ =>
        have g0 := hf 0 f0 rfl
        have g1 := hf 1 f1 rfl
        have g2 := hf 2 f2 rfl
        have g3 := hf 3 f3 rfl
        simp [o0, o1, o2, o3, c0, c1, c2, c3] at g0 g1 g2 g3
        have e0 := hcell 0 (by omega)
        have e1 := hcell 1 (by omega)
        have e2 := hcell 2 (by omega)
        have e3 := hcell 3 (by omega)
        rw [add_add] at e0 e1 e2 e3
        obtain ⟨z0, k0, _⟩ := DataW.trod_int u0 g0
        obtain ⟨z1, k1, _⟩ := DataW.trod_int u1 g1
        obtain ⟨z2, k2, _⟩ := DataW.trod_string u2 g2
        obtain ⟨z3, k3, _⟩ := DataW.trod_string u3 g3
        simp at k0 k1 k2 k3
        subst k0 k1 k2 k3
        exact ⟨(z0, z1, z2, z3), by simpa using e0, by simpa using e1, by simpa using e2, by simpa using e3⟩)
    by_cases h0 : len = 0
    · subst h0
      exact ⟨0, 0, fun _ => 0, fun _ => 0, fun _ => ByteArray.empty, fun _ => ByteArray.empty, ⟨fun h => absurd h (Nat.lt_irrefl _), fun i hi => absurd hi (Nat.not_lt_zero _), fun i hi => absurd hi (Nat.not_lt_zero _), fun i hi => absurd hi (Nat.not_lt_zero _), fun i hi => absurd hi (Nat.not_lt_zero _)⟩, Nat.zero_le _⟩
    · obtain ⟨b, off, spot⟩ := a
      have hspot : spot = none := by simpa [Addr.add] using World.cell?_spot (hq 0 (by omega)).1
      subst hspot
      refine ⟨b, off, fun i => (q i).1, fun i => (q i).2.1, fun i => (q i).2.2.1, fun i => (q i).2.2.2, ⟨fun _ => rfl, fun j hj => ?_, fun j hj => ?_, fun j hj => ?_, fun j hj => ?_⟩, by omega⟩
      · have := (hq j (by omega)).1; rwa [Go.WideShapes.add_plain] at this
      · have := (hq j (by omega)).2.1; rwa [Go.WideShapes.add_plain] at this
      · have := (hq j (by omega)).2.2.1; rwa [Go.WideShapes.add_plain] at this
      · have := (hq j (by omega)).2.2.2; rwa [Go.WideShapes.add_plain] at this
end

set_option maxRecDepth 100000 in
theorem lifted (os : Os) (started : os.Started) (H : Type) (enc : TypeId × Value → H) :
    ReturnsInHanded {} Try.checked os 3 .any (Rows.fnNoteDescribesFirstPlaceCountsAllSpec.pre6 enc Try.prog Try.f3 Rows.fnNoteDescribesFirstPlaceCountsAllRow.domain false) (Rows.fnNoteDescribesFirstPlaceCountsAllSpec.post enc Try.prog Try.f3 false true false false) := by
  refine returnsInHanded_of_change (C := Try.checked) own started (by kernel_rfl) Try.func3
    (ChangeSpec.witness6 (enc := enc) (C := Try.checked) false ⟨#[], #[.agg zs10, .agg zs10, .agg zi10, .agg zi10, .slice none 0 0], []⟩ 8 (by kernel_rfl) (by kernel_rfl) (by kernel_rfl) (by kernel_rfl)) ?_
  intro W base args ds gs before hval0 hW hcnd _
  have hval : ∀ (j : Nat) t v, Try.f3.params[j]? = some t → args[j]? = some v → Value.okWide Try.prog W .any base t v := hval0
  have hW' := hW
  obtain ⟨p, q, hA0, hV, rfl, hfz, hnd⟩ := hW
  have hA : DataW.TrodAll enc Try.prog W 0 (fun _ => true) true Try.f3.params.toList args.toList ds p := hA0
  rw [Try.params3] at hA hval
  obtain ⟨v0, vs0, d0, ds0, p0, q0, hargs, rfl, rfl, h0, r0⟩ := trodAll_cons hA
  obtain ⟨v1, vs1, d1, ds1, p1, q1, rfl, rfl, rfl, h1, r1⟩ := trodAll_cons r0
  obtain ⟨v2, vs2, d2, ds2, p2, q2, rfl, rfl, rfl, h2, r2⟩ := trodAll_cons r1
  obtain ⟨v3, vs3, d3, ds3, p3, q3, rfl, rfl, rfl, h3, r3⟩ := trodAll_cons r2
  obtain ⟨v4, vs4, d4, ds4, p4, q4, rfl, rfl, rfl, h4, r4⟩ := trodAll_cons r3
  obtain ⟨rfl, rfl, rfl⟩ := trodAll_nil r4
  obtain rfl : args = #[v0, v1, v2, v3, v4] := by cases args; simp_all
  obtain ⟨rfl, rfl⟩ := trodVars_none hV
  obtain ⟨a0, rfl, s0⟩ := okWide_array Try.underlying22 (hval 0 22 v0 rfl rfl)
  obtain ⟨a1, rfl, s1⟩ := okWide_array Try.underlying22 (hval 1 22 v1 rfl rfl)
  obtain ⟨a2, rfl, s2⟩ := okWide_array Try.underlying23 (hval 2 23 v2 rfl rfl)
  obtain ⟨a3, rfl, s3⟩ := okWide_array Try.underlying23 (hval 3 23 v3 rfl rfl)
  obtain ⟨a4, len4, cap4, rfl⟩ := okWide_slice Try.underlying24 (hval 4 24 v4 rfl rfl)
  rw [Try.cells22] at s0 s1
  rw [Try.cells23] at s2 s3
  have k0 := h0
  have k1 := h1
  have k2 := h2
  have k3 := h3
  have k4 := h4
  have lt0 : ∀ x ∈ p0, x.block < W.heap.size := by obtain ⟨m, hm⟩ := k0; exact DataW.trod_lt m _ _ _ hm
  have lt1 : ∀ x ∈ p1, x.block < W.heap.size := by obtain ⟨m, hm⟩ := k1; exact DataW.trod_lt m _ _ _ hm
  have lt2 : ∀ x ∈ p2, x.block < W.heap.size := by obtain ⟨m, hm⟩ := k2; exact DataW.trod_lt m _ _ _ hm
  have lt3 : ∀ x ∈ p3, x.block < W.heap.size := by obtain ⟨m, hm⟩ := k3; exact DataW.trod_lt m _ _ _ hm
  have lt4 : ∀ x ∈ p4, x.block < W.heap.size := by obtain ⟨m, hm⟩ := k4; exact DataW.trod_lt m _ _ _ hm
  obtain ⟨f0, g0⟩ := h0
  obtain ⟨f1, g1⟩ := h1
  obtain ⟨f2, g2⟩ := h2
  obtain ⟨f3, g3⟩ := h3
  obtain ⟨f4, g4⟩ := h4
  obtain ⟨F, hF⟩ := open_strs10 Try.underlying22 Try.underlying9 Try.cells9 s0 (by simpa [Value.cells] using g0)
  obtain ⟨P, hP⟩ := open_strs10 Try.underlying22 Try.underlying9 Try.cells9 s1 (by simpa [Value.cells] using g1)
  obtain ⟨C, hC⟩ := open_ints10 Try.underlying23 Try.underlying3 Try.cells3 s2 (by simpa [Value.cells] using g2)
  obtain ⟨L, hL⟩ := open_ints10 Try.underlying23 Try.underlying3 Try.cells3 s3 (by simpa [Value.cells] using g3)
  obtain ⟨pb, po, Ru, Le, Fi, Pr, hIn, hn⟩ := open_places Try.underlying24 Try.underlying27 Try.cells27 rfl rfl rfl rfl Try.cells3 Try.cells3 Try.cells9 Try.cells9 Try.underlying3 Try.underlying3 Try.underlying9 Try.underlying9 (by simpa [Value.cells] using g4)
  clear hA0 hval0
  refine (law_any a0 a1 a2 a3 F P C L hF hP hC hL a4 pb po len4 cap4 Ru Le Fi Pr W hIn hn).mono fun e W' ⟨he, bel⟩ => ?_
  subst he
  exact ⟨_, rfl, _, _, _, [], _, [], hW', trodAll_mk1 (shut_bool Try.underlying4 _), (trodAll_cons_mk (Below.trod laidOut (by kernel_rfl) (of_decide_eq_true (by kernel_rfl)) k0 bel lt0) (trodAll_cons_mk (Below.trod laidOut (by kernel_rfl) (of_decide_eq_true (by kernel_rfl)) k1 bel lt1) (trodAll_cons_mk (Below.trod laidOut (by kernel_rfl) (of_decide_eq_true (by kernel_rfl)) k2 bel lt2) (trodAll_cons_mk (Below.trod laidOut (by kernel_rfl) (of_decide_eq_true (by kernel_rfl)) k3 bel lt3) (trodAll_cons_mk (Below.trod laidOut (by kernel_rfl) (of_decide_eq_true (by kernel_rfl)) k4 bel lt4) trodAll_mk0))))), rfl, bel.frame _, fun h => by cases h⟩

theorem over : Rows.fnNoteDescribesFirstPlaceCountsAllRow.holds Try.pinned (OpenSpec.ofChange Rows.fnNoteDescribesFirstPlaceCountsAllSpec) :=
  OpenClaim.holds_of_wide 3 Try.f3 rfl rfl rfl rfl rfl rfl rfl ⟨rfl, rfl, rfl, rfl, rfl⟩ rfl rfl rfl rfl rfl (by kernel_rfl) Try.func3 (by kernel_rfl)
    (of_decide_eq_true (by kernel_rfl)) (by unfold Func.isWrapper; first | (rw [if_pos (by decide +kernel)]; kernel_rfl) | (rw [if_neg (by decide +kernel)]; exact ⟨rfl, rfl⟩))
    (fun os started H enc _ => lifted os started H enc)

/-- THE STATEMENT. -/
theorem proved : Rows.FnNoteDescribesFirstPlaceCountsAllSaid := over
end Go.Proofs.Qxb6617664a.fnNoteDescribesFirstPlaceCountsAll
