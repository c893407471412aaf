/- WHAT A ROUND OF THE WALK WRITES. -/
import Derived.Test.Qxb6615153aCnt
namespace Go.Proofs.Qxb6615153a.Nk
open Go.RowKit
set_option linter.unusedVariables false

section
variable {w w' : World} {nb lb rb vb N k0 : Nat} {Ln VB : Nat → Nat} {M : Nat → Nat → Int} {nd its : Nat → Nat} {it : Nat → Nat → Nat} {hint : Nat → Nat → Int} {V : Nat → Nat → Bool} {L s i : Nat}

def set2 {α : Type} (f : Nat → Nat → α) (L s : Nat) (v : α) (a b : Nat) : α := if a = L ∧ b = s then v else f a b

theorem set2_same {α : Type} (f : Nat → Nat → α) (L s : Nat) (v : α) : set2 f L s v L s = v := by unfold set2; rw [if_pos ⟨rfl, rfl⟩]
theorem set2_ne {α : Type} (f : Nat → Nat → α) {L s a b : Nat} (v : α) (h : ¬ (a = L ∧ b = s)) : set2 f L s v a b = f a b := by unfold set2; rw [if_neg h]

theorem built_hint (h : Built w nb lb rb N k0 Ln M nd its it hint) (hL : L < N) (hs : s < Ln L) (hn : ∀ j, j < N → Ln j ≤ 128) (v : Int) :
    Built (w.setCell ⟨it L s, 5, none⟩ (.int .i32 v)) nb lb rb N k0 Ln M nd its it (set2 hint L s v) := by
  have hi0 := (h.leaf L hL).items s hs
  have hne : ∀ {b : Nat} {t : TypeId} {n : Nat} {f : Nat → Value}, Own w b t n f → t ≠ 96 → b ≠ it L s := fun ho ht => ho.ne hi0.own ht
  refine ⟨h.nodes.setOther (hne h.nodes (by decide)) _, h.lists.setOther (hne h.lists (by decide)) _, fun j hj => ?_⟩
  obtain ⟨⟨mk, mc, ib, ic, h1, h2, h3⟩, h4, h5⟩ := h.leaf j hj
  refine ⟨⟨mk, mc, ib, ic, h1.of_block (Below.heap_setCell _ _ _ _ (hne h1.own (by decide))), h2.setOther (hne h2 (by decide)) _, h3.setOther (hne h3 (by decide)) _⟩, h4.setOther (hne h4 (by decide)) _, fun a ha => ?_⟩
  by_cases e : j = L ∧ a = s
  · obtain ⟨rfl, rfl⟩ := e
    have : set2 hint j a v j a = v := by unfold set2; rw [if_pos ⟨rfl, rfl⟩]
    rw [this]
    exact hi0.setIdx v
  · have : set2 hint L s v j a = hint j a := by unfold set2; rw [if_neg e]
    rw [this]
    have hia := h5 a ha
    refine hia.of_block (Below.heap_setCell _ _ _ _ ?_)
    refine hia.ne hi0 (fun e2 => e ?_)
    have := hn j hj
    have := hn L hL
    omega

theorem built_mark (h : Built w nb lb rb N k0 Ln M nd its it hint) (hV : Vis w vb N N Ln VB V) (hL : L < N) (v : Value) : Built (w.setCell ⟨VB L, i, none⟩ v) nb lb rb N k0 Ln M nd its it hint := by
  have hr := hV.row L hL
  exact ⟨h.nodes.setOther (h.nodes.ne hr (by decide)) _, h.lists.setOther (h.lists.ne hr (by decide)) _, fun j hj => (h.leaf j hj).store hr (by decide) _⟩

theorem Vis.below (h : Vis w vb N N Ln VB V) (hb : Below w.heap.size w w') : Vis w' vb N N Ln VB V :=
  ⟨h.rows.below hb h.rows.lt, fun j hj => (h.row j hj).below hb (h.row j hj).lt, h.inj, h.lo⟩

theorem vis_hint (h : Vis w vb N N Ln VB V) {q : Nat} {at_ idx : Int} (hi : Item w q rb at_ idx) (v : Value) : Vis (w.setCell ⟨q, 5, none⟩ v) vb N N Ln VB V :=
  ⟨h.rows.setOther (h.rows.ne hi.own (by decide)) _, fun j hj => (h.row j hj).setOther ((h.row j hj).ne hi.own (by decide)) _, h.inj, h.lo⟩

theorem vis_mark (h : Vis w vb N N Ln VB V) (hL : L < N) : Vis (w.setCell ⟨VB L, i, none⟩ (.bool true)) vb N N Ln VB (set2 V L i true) := by
  refine ⟨h.rows.setOther (h.rows.ne (h.row L hL) (by decide)) _, fun j hj => ?_, h.inj, h.lo⟩
  by_cases e : j = L
  · subst e
    refine ((h.row j hj).set i (.bool true)).congr (fun a _ => ?_)
    unfold set2
    by_cases e2 : a = i
    · rw [if_pos e2, if_pos ⟨rfl, e2⟩]
    · rw [if_neg e2, if_neg (fun h => e2 h.2)]
  · refine ((h.row j hj).setOther (fun e2 => e (h.inj j hj L hL e2)) _).congr (fun a _ => ?_)
    unfold set2
    rw [if_neg (fun h => e h.1)]
end

/-- All that the walk keeps, the places before code c done. -/
structure Walk (w0 w : World) (m : Option Addr) (mb mo nb lb rb vb N : Nat) (R : Nat → Option Addr) (Ln C RB RO VB : Nat → Nat) (M : Nat → Nat → Int) (nd its : Nat → Nat) (it : Nat → Nat → Nat) (hint : Nat → Nat → Int) (V : Nat → Nat → Bool) (c : Nat) : Prop where
  built : Built w nb lb rb N (N - 1) Ln M nd its it hint
  vis : Vis w vb N N Ln VB V
  seen : ∀ L, L < N → ∀ i, i < Ln L → V L i = (kB N Ln M (L * 256 + i) && decide (L * 256 + i < c))
  hints : ∀ L, L < N → ∀ i, i < Ln L → hint L (slotOf M L i) = if V L i = true then (i : Int) else (slotOf M L i : Int)
  lo : ∀ L, L < N → (∀ s, s < Ln L → w0.heap.size ≤ it L s) ∧ w0.heap.size ≤ VB L
  below : Below w0.heap.size w0 w
  lv0 : Lv w0 m mb mo N R Ln C RB RO M

section
variable {w0 w w' : World} {m : Option Addr} {mb mo nb lb rb vb N : Nat} {R : Nat → Option Addr} {Ln C RB RO VB : Nat → Nat} {M : Nat → Nat → Int} {nd its : Nat → Nat} {it : Nat → Nat → Nat} {hint : Nat → Nat → Int} {V : Nat → Nat → Bool} {c L i : Nat}

theorem Walk.lv (h : Walk w0 w m mb mo nb lb rb vb N R Ln C RB RO VB M nd its it hint V c) : Lv w m mb mo N R Ln C RB RO M := h.lv0.below h.below

theorem Walk.belowSame (h : Walk w0 w m mb mo nb lb rb vb N R Ln C RB RO VB M nd its it hint V c) (hb : Below w.heap.size w w') : Walk w0 w' m mb mo nb lb rb vb N R Ln C RB RO VB M nd its it hint V c :=
  ⟨h.built.below hb, h.vis.below hb, h.seen, h.hints, h.lo, h.below.trans (hb.mono h.below.size), h.lv0⟩

/-- nextKnown has set the hint. -/
theorem Walk.mid (h : Walk w0 w m mb mo nb lb rb vb N R Ln C RB RO VB M nd its it hint V c) (hF : Fit N Ln M (slotOf M)) (hL : L < N) (hi : i < Ln L)
    (hb : Below w.heap.size (w.setCell ⟨it L (slotOf M L i), 5, none⟩ (.int .i32 i)) w') :
    Built w' nb lb rb N (N - 1) Ln M nd its it (set2 hint L (slotOf M L i) i) ∧ Vis w' vb N N Ln VB V ∧ Below w0.heap.size w0 w' := by
  have hs := (hF.slot L hL i hi).2
  have hit := (h.built.leaf L hL).items _ hs
  have hsz : (w.setCell ⟨it L (slotOf M L i), 5, none⟩ (.int .i32 i)).heap.size = w.heap.size := by simp [World.setCell]
  have hb' := hb
  rw [← hsz] at hb'
  exact ⟨(built_hint h.built hL hs (fun j hj => (hF.n j hj).2) i).below hb', (vis_hint h.vis hit _).below hb',
    (h.below.setCell (p := ⟨it L (slotOf M L i), 5, none⟩) ((h.lo L hL).1 _ hs) _).trans (hb.mono h.below.size)⟩

theorem Walk.step (h : Walk w0 w m mb mo nb lb rb vb N R Ln C RB RO VB M nd its it hint V c) (hF : Fit N Ln M (slotOf M)) (hL : L < N) (hi : i < Ln L) (hc : c ≤ L * 256 + i) (hodd : M L i % 2 = 1) (hno : NoneIn N Ln M c (L * 256 + i))
    (hb : Below w.heap.size (w.setCell ⟨it L (slotOf M L i), 5, none⟩ (.int .i32 i)) w') :
    Walk w0 (w'.setCell ⟨VB L, i, none⟩ (.bool true)) m mb mo nb lb rb vb N R Ln C RB RO VB M nd its it (set2 hint L (slotOf M L i) i) (set2 V L i true) (stepL Ln L i * 256 + stepI Ln L i) := by
  obtain ⟨h1, h2, h3⟩ := h.mid hF hL hi hb
  have hseen : ∀ a, a < N → ∀ b, b < Ln a → set2 V L i true a b = (kB N Ln M (a * 256 + b) && decide (a * 256 + b < stepL Ln L i * 256 + stepI Ln L i)) := fun a ha b hbb => by
    have hna := (hF.n a ha).2
    have hnL := (hF.n L hL).2
    unfold set2
    by_cases e : a = L ∧ b = i
    · obtain ⟨rfl, rfl⟩ := e
      rw [if_pos ⟨rfl, rfl⟩, (kB_iff (by omega)).2 ⟨ha, hbb, hodd⟩]
      have := step_gt hF ha hbb
      simp [this]
    · rw [if_neg e, h.seen a ha b hbb]
      have hne : a * 256 + b ≠ L * 256 + i := fun e2 => e (by omega)
      by_cases hk : M a b % 2 = 1
      · congr 1
        by_cases h5 : a * 256 + b < c
        · have := step_gt hF hL hi
          simp; omega
        · have h6 : ¬ a * 256 + b < L * 256 + i := fun h7 => by
            have h9 : c ≤ a * 256 + b := Nat.le_of_not_lt h5
            have h10 := hno a b ha hbb h9 h7
            rw [h10] at hk
            exact absurd hk (by decide)
          have h8 := step_gap hF hL hi ha hbb (by omega)
          simp; omega
      · have : kB N Ln M (a * 256 + b) = false := by
          cases e3 : kB N Ln M (a * 256 + b) with
          | false => rfl
          | true => exact absurd ((kB_iff (by omega)).1 e3).2.2 hk
        rw [this]; rfl
  refine ⟨built_mark h1 h2 hL _, vis_mark h2 hL, hseen, fun a ha b hbb => ?_, h.lo, h3.setCell (p := ⟨VB L, i, none⟩) (h.lo L hL).2 _, h.lv0⟩
  by_cases e : a = L
  · subst e
    by_cases e2 : b = i
    · subst e2
      rw [set2_same, set2_same, if_pos rfl]
    · rw [set2_ne _ _ (fun e3 => e2 (hF.inj a ha b hbb i hi e3.2)), set2_ne _ _ (fun e3 => e2 e3.2)]
      exact h.hints a ha b hbb
  · rw [set2_ne _ _ (fun e3 => e e3.1), set2_ne _ _ (fun e3 => e e3.1)]
    exact h.hints a ha b hbb
end
end Go.Proofs.Qxb6615153a.Nk
