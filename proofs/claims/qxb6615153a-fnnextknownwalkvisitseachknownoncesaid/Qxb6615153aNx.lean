/- nextKnown ITSELF. -/
import Derived.Test.Qxb6615153aCurB
import Derived.Deep.LoopGhost
import Derived.Laws.BitsAllLaws
namespace Go.Proofs.Qxb6615153a.Nk
open Go.RowKit
set_option linter.unusedVariables false

/-- The leaves fit: each holds 1 to 128 marks, whose top bytes are the slots, each once. -/
structure Fit (N : Nat) (Ln : Nat → Nat) (M : Nat → Nat → Int) (sl : Nat → Nat → Nat) : Prop where
  n : ∀ L, L < N → 0 < Ln L ∧ Ln L ≤ 128
  rng : ∀ L, L < N → ∀ i, i < Ln L → 0 ≤ M L i ∧ M L i ≤ 4294967295
  inj : ∀ L, L < N → ∀ i, i < Ln L → ∀ j, j < Ln L → sl L i = sl L j → i = j
  slot : ∀ L, L < N → ∀ i, i < Ln L → M L i / 16777216 = (sl L i : Int) ∧ sl L i < Ln L

/-- None is known among the places from code c up to code d. -/
def NoneIn (N : Nat) (Ln : Nat → Nat) (M : Nat → Nat → Int) (c d : Nat) : Prop := ∀ a b, a < N → b < Ln a → c ≤ a * 256 + b → a * 256 + b < d → M a b % 2 = 0

def leafA (nd : Nat → Nat) (N L : Nat) : Option Addr := if L < N then some ⟨nd L, 0, none⟩ else none

/-- What nextKnown answers from code c. -/
def NkPost (w w' : World) (e : Ending) (rb N c : Nat) (Ln : Nat → Nat) (M : Nat → Nat → Int) (sl it : Nat → Nat → Nat) : Prop :=
  (∃ L i, L < N ∧ i < Ln L ∧ c ≤ L * 256 + i ∧ M L i % 2 = 1 ∧ NoneIn N Ln M c (L * 256 + i) ∧ e = .returned (.agg #[ptr rb, .int .i32 ((L : Int) * 256 + sl L i)]) ∧ Below w.heap.size (w.setCell ⟨it L (sl L i), 5, none⟩ (.int .i32 i)) w') ∨
  (NoneIn N Ln M c (N * 256) ∧ e = .returned (.agg #[.pointer none, .int .i32 0]) ∧ Below w.heap.size w w')

/-- A place, or the end. -/
def At (N : Nat) (Ln : Nat → Nat) (L i : Nat) : Prop := (L < N ∧ i < Ln L) ∨ (L = N ∧ i = 0)

structure NkRel (w wi : World) (N : Nat) (Ln : Nat → Nat) (M : Nat → Nat → Int) (nd : Nat → Nat) (c L i : Nat) : Prop where
  place : At N Ln L i
  le : c ≤ L * 256 + i
  noneIn : NoneIn N Ln M c (L * 256 + i)
  below : Below w.heap.size w wi
  box : wi.heap[w.heap.size]? = some (.cells #[.pointer (leafA nd N L), .int .i64 i] 114 (0, 0))
  res : wi.heap[w.heap.size + 1]? = some (.cells #[.pointer none, .int .i32 0] 111 (0, 0))

/-- The place behind (L, i). -/
def stepL (Ln : Nat → Nat) (L i : Nat) : Nat := if i + 1 < Ln L then L else L + 1
def stepI (Ln : Nat → Nat) (L i : Nat) : Nat := if i + 1 < Ln L then i + 1 else 0

section
variable {N : Nat} {Ln : Nat → Nat} {M : Nat → Nat → Int} {sl : Nat → Nat → Nat} {c L i : Nat}
theorem step_at (hF : Fit N Ln M sl) (hL : L < N) (hi : i < Ln L) : At N Ln (stepL Ln L i) (stepI Ln L i) := by
  unfold stepL stepI At
  by_cases h : i + 1 < Ln L
  · rw [if_pos h, if_pos h]; exact .inl ⟨hL, h⟩
  · rw [if_neg h, if_neg h]
    by_cases h2 : L + 1 < N
    · exact .inl ⟨h2, (hF.n _ h2).1⟩
    · exact .inr ⟨by omega, rfl⟩
theorem step_gt (hF : Fit N Ln M sl) (hL : L < N) (hi : i < Ln L) : L * 256 + i < stepL Ln L i * 256 + stepI Ln L i := by
  have := (hF.n L hL).2
  unfold stepL stepI
  by_cases h : i + 1 < Ln L
  · rw [if_pos h, if_pos h]; omega
  · rw [if_neg h, if_neg h]; omega
/-- No place lies between a place and the one behind it. -/
theorem step_gap (hF : Fit N Ln M sl) (hL : L < N) (hi : i < Ln L) {a b : Nat} (ha : a < N) (hb : b < Ln a) (h1 : L * 256 + i < a * 256 + b) : stepL Ln L i * 256 + stepI Ln L i ≤ a * 256 + b := by
  have h2 := (hF.n L hL).2
  have h3 := (hF.n a ha).2
  unfold stepL stepI
  by_cases h : i + 1 < Ln L
  · rw [if_pos h, if_pos h]; omega
  · rw [if_neg h, if_neg h]
    by_cases e : a = L
    · subst e; omega
    · omega
theorem none_step (hF : Fit N Ln M sl) (hL : L < N) (hi : i < Ln L) (h : NoneIn N Ln M c (L * 256 + i)) (h0 : M L i % 2 = 0) : NoneIn N Ln M c (stepL Ln L i * 256 + stepI Ln L i) := by
  intro a b ha hb h1 h2
  by_cases e : a * 256 + b < L * 256 + i
  · exact h a b ha hb h1 e
  · by_cases e2 : L * 256 + i < a * 256 + b
    · have := step_gap hF hL hi ha hb e2
      omega
    · have h3 := (hF.n a ha).2
      have h4 := (hF.n L hL).2
      obtain rfl : a = L := by omega
      obtain rfl : b = i := by omega
      exact h0
end

theorem u32_and1 (m : Int) (h : 0 ≤ m ∧ m ≤ 4294967295) : bits .and .u32 m 1 = m % 2 := by
  rw [u32_and m 1 h.1 (by omega) (by decide) (by decide)]
  have : (1 : Int).toNat = 1 := rfl
  rw [this, Nat.and_one_is_mod]
  omega

theorem nxt_leaf (nd : Nat → Nat) {N L : Nat} (hL : L < N) : nxt nd (N - 1) L = .pointer (leafA nd N (L + 1)) := by
  unfold nxt leafA ptr
  by_cases h : L + 1 < N
  · rw [if_pos h, if_pos (by omega)]
  · rw [if_neg h, if_neg (by omega)]

theorem next_any' {N : Nat} {Ln : Nat → Nat} {nd : Nat → Nat} {L i mk mc : Nat} {iv : Value} (w : World) (h : Node w (nd L) (.slice (some ⟨mk, 0, none⟩) (Ln L) mc) iv (nxt nd (N - 1) L)) (hL : L < N) (hi : i < Ln L) (hn : Ln L ≤ 128) :
    Calls Try.prog 49 #[.agg #[.pointer (some ⟨nd L, 0, none⟩), .int .i64 i]] w fun e w' => e = .returned (.agg #[.pointer (leafA nd N (stepL Ln L i)), .int .i64 (stepI Ln L i : Nat)]) ∧ Below w.heap.size w w' := by
  rw [nxt_leaf nd hL] at h
  refine (next_any (nd L) (Ln L) i mk mc iv _ w h hi hn).mono ?_
  rintro e w' ⟨rfl, hb⟩
  refine ⟨?_, hb⟩
  unfold stepL stepI
  by_cases e : i + 1 = Ln L
  · rw [if_pos e, if_neg (by omega), if_neg (by omega)]; rfl
  · rw [if_neg e, if_pos (by omega), if_pos (by omega)]
    unfold leafA ptr
    rw [if_pos hL]

theorem box_cell {w : World} {b : Nat} {x y : Value} {t : TypeId} (h : w.heap[b]? = some (.cells #[x, y] t (0, 0))) : w.cell? ⟨b, 0, none⟩ = some x ∧ w.cell? ⟨b, 1, none⟩ = some y ∧ w.frozen? ⟨b, 0, none⟩ = false ∧ w.frozen? ⟨b, 1, none⟩ = false := by
  simp [World.cell?, World.frozen?, h]

set_option maxHeartbeats 1600000 in
theorem nextKnown_any (nb lb rb N : Nat) (Ln : Nat → Nat) (M : Nat → Nat → Int) (sl : Nat → Nat → Nat) (nd its : Nat → Nat) (it : Nat → Nat → Nat) (hint : Nat → Nat → Int) (w : World) (p : Option Addr) (L i : Nat)
    (hB : Built w nb lb rb N (N - 1) Ln M nd its it hint) (hF : Fit N Ln M sl) (hN : N ≤ 4096) (hat : At N Ln L i) :
    Calls Try.prog 47 #[.pointer p, .agg #[.pointer (leafA nd N L), .int .i64 i]] w fun e w' => NkPost w w' e rb N (L * 256 + i) Ln M sl it := by
  have H0 : NkRel w ((w.alloc (.cells #[.pointer (leafA nd N L), .int .i64 i] 114)).alloc (.cells #[.pointer none, .int .i32 0] 111)) N Ln M nd (L * 256 + i) L i := by
    refine ⟨hat, Nat.le_refl _, fun a b _ _ h1 h2 => absurd h2 (Nat.not_lt.2 h1), ((Below.refl _ _).alloc (Nat.le_refl _) _).alloc (by simp) _, ?_, ?_⟩
    · rw [Below.heap_alloc _ _ _ (by simp)]; exact Go.Deep.blk_alloc_new _ _
    · have := Go.Deep.blk_alloc_new (w.alloc (.cells #[.pointer (leafA nd N L), .int .i64 i] 114)) (.cells #[.pointer none, .int .i32 0] 111)
      simpa using this
  have hat0 : L * 256 + i ≤ N * 256 + 128 := by
    rcases hat with ⟨h1, h2⟩ | ⟨rfl, rfl⟩
    · have := (hF.n L h1).2; omega
    · omega
  go_enter Try.func47, Try.ntmps47
  go_wp2
  go_loopg [] (N * 256 + 256 - (L * 256 + i)) (fun k wi => ∃ L' i', k = N * 256 + 256 - (L' * 256 + i') ∧ NkRel w wi N Ln M nd (L * 256 + i) L' i')
  case atStart => exact ⟨L, i, rfl, H0⟩
  case round =>
    obtain ⟨L', i', hk, hR⟩ := hrel
    clear H0
    obtain ⟨c0, c1, c2, c3⟩ := box_cell hR.box
    rcases hR.place with ⟨hL, hi⟩ | ⟨rfl, rfl⟩
    · have hB' := hB.below hR.below
      have hlf := hB'.leaf L' hL
      obtain ⟨mk, mc, ib, ic, h1, h2, h3⟩ := hlf.node
      obtain ⟨hs1, hs2⟩ := hF.slot L' hL i' hi
      have h4 := hlf.items (sl L' i') hs2
      have h40 := (hB.leaf L' hL).items (sl L' i') hs2
      have hrng := hF.rng L' hL i' hi
      obtain ⟨hn0, hn1⟩ := hF.n L' hL
      have d0 := h1.marks
      have d1 := h2.cell hi
      have hla : leafA nd N L' = some ⟨nd L', 0, none⟩ := by unfold leafA; rw [if_pos hL]
      rw [hla] at c0
      have hi2 : (i' : Int) < (Ln L' : Int) := by omega
      have hres := hR.res
      have hqb : it L' (sl L' i') < w.heap.size := h40.lt
      have hbits := u32_and1 (M L' i') hrng
      have HK : Hid (gk = N * 256 + 256 - (L' * 256 + i')) := hk
      have HR : Hid (NkRel w wr N Ln M nd (L * 256 + i) L' i') := hR
      have HH1 : Hid (Node wr (nd L') (Value.slice (some ⟨mk, 0, none⟩) (Ln L') mc) (Value.slice (some ⟨ib, 0, none⟩) (Ln L') ic) (nxt nd (N - 1) L')) := h1
      have HH2 : Hid (Own wr mk 132 (Ln L') (fun i => .int .u32 (M L' i))) := h2
      have HH3 : Hid (Own wr ib 94 (Ln L') (fun s => ptr (it L' s))) := h3
      have HH4 : Hid (Item wr (it L' (sl L' i')) rb ((L' : Int) * 256 + (sl L' i' : Nat)) (hint L' (sl L' i'))) := h4
      have HH40 : Hid (Item w (it L' (sl L' i')) rb ((L' : Int) * 256 + (sl L' i' : Nat)) (hint L' (sl L' i'))) := h40
      have HS : Hid (M L' i' / 16777216 = (sl L' i' : Int)) := hs1
      have HRES : Hid (wr.heap[w.heap.size + 1]? = some (.cells #[.pointer none, .int .i32 0] 111 (0, 0))) := hres
      clear hk hR h1 h2 h3 h4 hB' hlf hs1 hla hres h40
      by_cases hodd : M L' i' % 2 = 1
      · rw [hodd] at hbits
        go_wp2
        go_region
        go_wp2_with fail
        refine (item_any (nd L') mk mc ib ic (Ln L') i' (sl L' i') rb (M L') (it L') (nxt nd (N - 1) L') _ _ wr.drew HH1.out HH2.out HH3.out hi hn1 hrng HS.out hs2 HH4.out).mono ?_
        rintro e w1 ⟨rfl, hb1⟩
        have hsz1 : wr.heap.size ≤ w1.heap.size := by have := hb1.size; simpa [World.setCell] using this
        have hrl : w.heap.size + 1 < wr.heap.size := (Array.getElem?_eq_some_iff.1 HRES.out).1
        have hit1 : Item w1 (it L' (sl L' i')) rb ((L' : Int) * 256 + (sl L' i' : Nat)) i' := by
          refine Item.of_block (Item.setIdx (w := wr) HH4.out i') ?_
          exact hb1.block _ (by have := HH4.out.lt; exact this)
        have hres1 : w1.heap[w.heap.size + 1]? = some (.cells #[.pointer none, .int .i32 0] 111 (0, 0)) := by
          rw [hb1.block _ hrl, Below.heap_setCell _ _ _ _ (by show w.heap.size + 1 ≠ it L' (sl L' i'); omega)]
          exact HRES.out
        have HB1 : Hid (Below w.heap.size (w.setCell ⟨it L' (sl L' i'), 5, none⟩ (.int .i32 i')) w1) := (below_set_set HH40.out HR.out.below.drew (.int .i32 i') hqb).trans (hb1.mono (by show w.heap.size ≤ wr.heap.size; omega))
        have HIT1 : Hid (Item w1 (it L' (sl L' i')) rb ((L' : Int) * 256 + (sl L' i' : Nat)) i') := hit1
        have HRES1 : Hid (w1.heap[w.heap.size + 1]? = some (.cells #[.pointer none, .int .i32 0] 111 (0, 0))) := hres1
        clear c0 c1 c2 c3 d0 d1 hb1 hit1 hres1
        simp only [ptr]
        go_wp2_with fail
        refine (first_any _ rb _ _ w1 HIT1.out).mono ?_
        rintro e w2 ⟨rfl, hb2⟩
        have hres2 : w2.heap[w.heap.size + 1]? = some (.cells #[.pointer none, .int .i32 0] 111 (0, 0)) := by
          rw [hb2.block _ (by omega)]; exact HRES1.out
        obtain ⟨c0, c1, c2, c3⟩ := box_cell hres2
        have HB2 : Hid (Below w.heap.size (w.setCell ⟨it L' (sl L' i'), 5, none⟩ (.int .i32 i')) w2) := HB1.out.trans (hb2.mono (by omega))
        clear hb2 hres2
        simp only [ptr]
        go_wp2
        refine bodyPost_ret (v := .agg #[ptr rb, .int .i32 ((L' : Int) * 256 + (sl L' i' : Nat))]) (by simp [results, go_sem, ptr, c0, c1]) rfl ?_
        exact .inl ⟨L', i', hL, hi, HR.out.le, hodd, HR.out.noneIn, rfl, (HB2.out.setCell (p := ⟨w.heap.size + 1, 0, none⟩) (by show w.heap.size ≤ w.heap.size + 1; omega) _).setCell (p := ⟨w.heap.size + 1, 1, none⟩) (by show w.heap.size ≤ w.heap.size + 1; omega) _⟩
      · have hev : M L' i' % 2 = 0 := by omega
        rw [hev] at hbits
        go_wp2
        go_region
        go_wp2_with fail
        refine (next_any' (N := N) (Ln := Ln) (nd := nd) wr.drew HH1.out hL hi hn1).mono ?_
        rintro e w1 ⟨rfl, hb1⟩
        have hrl : w.heap.size + 1 < wr.heap.size := (Array.getElem?_eq_some_iff.1 HRES.out).1
        have hbox1 := (hb1.block w.heap.size (by show w.heap.size < wr.heap.size; omega)).trans HR.out.box
        have hres1 := (hb1.block (w.heap.size + 1) hrl).trans HRES.out
        obtain ⟨e0, e1, e2, e3⟩ := box_cell hbox1
        have HB1 : Hid (Below w.heap.size w w1) := HR.out.below.drew.trans (hb1.mono (by show w.heap.size ≤ wr.heap.size; omega))
        have HRES1 : Hid (w1.heap[w.heap.size + 1]? = some (.cells #[.pointer none, .int .i32 0] 111 (0, 0))) := hres1
        have HBOX1 : Hid (w1.heap[w.heap.size]? = some (.cells #[.pointer (leafA nd N L'), .int .i64 i'] 114 (0, 0))) := hbox1
        clear c0 c1 c2 c3 d0 d1 hb1 hbox1 hres1
        go_wp2
        go_roundg (N * 256 + 256 - (stepL Ln L' i' * 256 + stepI Ln L' i'))
        case measure =>
          have h1 := step_gt hF hL hi
          rw [HK.out]
          omega
        case rel =>
          refine ⟨_, _, rfl, step_at hF hL hi, Nat.le_of_lt (Nat.lt_of_le_of_lt HR.out.le (step_gt hF hL hi)), none_step hF hL hi HR.out.noneIn hev, (HB1.out.setCell (p := ⟨w.heap.size, 0, none⟩) (Nat.le_refl _) _).setCell (p := ⟨w.heap.size, 1, none⟩) (Nat.le_refl _) _, ?_, ?_⟩
          · exact setCell_block (setCell_block HBOX1.out 0 _) 1 _
          · rw [Below.heap_setCell _ _ _ _ (by show w.heap.size + 1 ≠ w.heap.size; omega), Below.heap_setCell _ _ _ _ (by show w.heap.size + 1 ≠ w.heap.size; omega)]
            exact HRES1.out
    · rw [show leafA nd L' L' = none from by simp [leafA]] at c0
      obtain ⟨e0, e1, e2, e3⟩ := box_cell hR.res
      have HR : Hid (NkRel w wr L' Ln M nd (L * 256 + i) L' 0) := hR
      clear hR hk
      go_wp2
      refine bodyPost_ret (v := .agg #[.pointer none, .int .i32 0]) (by simp [results, go_sem, e0, e1]) rfl ?_
      exact .inr ⟨by have := HR.out.noneIn; rwa [Nat.add_zero] at this, rfl, (HR.out.below.setCell (p := ⟨w.heap.size + 1, 0, none⟩) (by show w.heap.size ≤ w.heap.size + 1; omega) _).setCell (p := ⟨w.heap.size + 1, 1, none⟩) (by show w.heap.size ≤ w.heap.size + 1; omega) _⟩
end Go.Proofs.Qxb6615153a.Nk
