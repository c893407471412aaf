/- THE FINDINGS: their cells, and the walks of after, note, ZZNote. -/
import Derived.Test.Qxb6617664aIn
namespace Go.Proofs.Qxb6617664a
open Go.RowKit

/-- What is found, by the rule's number. -/
structure St where
  F : Nat → ByteArray
  P : Nat → ByteArray
  C : Nat → Int
  L : Nat → Int

def upd {α : Type} (g : Nat → α) (r : Nat) (v : α) (k : Nat) : α := if k = r then v else g k

def St.cell (s : St) (j : Nat) : Value := if j % 4 = 0 then .string (s.F (j / 4)) else if j % 4 = 1 then .string (s.P (j / 4)) else if j % 4 = 2 then .int .i64 (s.C (j / 4)) else .int .i64 (s.L (j / 4))

def St.desc (s : St) (r : Nat) (left : Int) (f p : ByteArray) : St := ⟨upd s.F r f, upd s.P r p, s.C, upd s.L r left⟩
def St.more (s : St) (r : Nat) : St := ⟨s.F, s.P, upd s.C r (s.C r + 1), s.L⟩
def St.note (s : St) (r : Nat) (left : Int) (f p : ByteArray) : St := if s.C r = 0 ∨ s.L r < left then (s.desc r left f p).more r else s.more r

theorem St.cell0 (s : St) (r : Nat) : s.cell (r * 4) = .string (s.F r) := by
  unfold St.cell; rw [if_pos (by omega), show r * 4 / 4 = r by omega]
theorem St.cell1 (s : St) (r : Nat) : s.cell (r * 4 + 1) = .string (s.P r) := by
  unfold St.cell; rw [if_neg (by omega), if_pos (by omega), show (r * 4 + 1) / 4 = r by omega]
theorem St.cell2 (s : St) (r : Nat) : s.cell (r * 4 + 2) = .int .i64 (s.C r) := by
  unfold St.cell; rw [if_neg (by omega), if_neg (by omega), if_pos (by omega), show (r * 4 + 2) / 4 = r by omega]
theorem St.cell3 (s : St) (r : Nat) : s.cell (r * 4 + 3) = .int .i64 (s.L r) := by
  unfold St.cell; rw [if_neg (by omega), if_neg (by omega), if_neg (by omega), show (r * 4 + 3) / 4 = r by omega]

theorem upd_same {α : Type} (g : Nat → α) (r : Nat) (v : α) : upd g r v r = v := by unfold upd; rw [if_pos rfl]
theorem upd_other {α : Type} (g : Nat → α) (r : Nat) (v : α) (k : Nat) (h : k ≠ r) : upd g r v k = g k := by unfold upd; rw [if_neg h]

/-- Two states that agree on all cells but one. -/
theorem cell_set {s t : St} {i : Nat} {v : Value} (hv : t.cell i = v) (h : ∀ j, j ≠ i → t.cell j = s.cell j) (j : Nat) : (if j = i then v else s.cell j) = t.cell j := by
  by_cases e : j = i
  · subst e; rw [if_pos rfl, hv]
  · rw [if_neg e, h j e]

theorem setF (s : St) (r : Nat) (f : ByteArray) (j : Nat) : (if j = r * 4 then .string f else s.cell j) = ({ s with F := upd s.F r f } : St).cell j := by
  refine cell_set ?_ (fun j hj => ?_) j
  · rw [St.cell0]; simp [upd_same]
  · unfold St.cell
    by_cases h : j % 4 = 0
    · rw [if_pos h, if_pos h]; simp only; rw [upd_other _ _ _ _ (by omega)]
    · rw [if_neg h, if_neg h]
theorem setP (s : St) (r : Nat) (f : ByteArray) (j : Nat) : (if j = r * 4 + 1 then .string f else s.cell j) = ({ s with P := upd s.P r f } : St).cell j := by
  refine cell_set ?_ (fun j hj => ?_) j
  · rw [St.cell1]; simp [upd_same]
  · unfold St.cell
    by_cases h : j % 4 = 0
    · rw [if_pos h, if_pos h]
    · rw [if_neg h, if_neg h]
      by_cases h : j % 4 = 1
      · rw [if_pos h, if_pos h]; simp only; rw [upd_other _ _ _ _ (by omega)]
      · rw [if_neg h, if_neg h]
theorem setC (s : St) (r : Nat) (f : Int) (j : Nat) : (if j = r * 4 + 2 then .int .i64 f else s.cell j) = ({ s with C := upd s.C r f } : St).cell j := by
  refine cell_set ?_ (fun j hj => ?_) j
  · rw [St.cell2]; simp [upd_same]
  · unfold St.cell
    by_cases h : j % 4 = 0
    · rw [if_pos h, if_pos h]
    · rw [if_neg h, if_neg h]
      by_cases h : j % 4 = 1
      · rw [if_pos h, if_pos h]
      · rw [if_neg h, if_neg h]
        by_cases h : j % 4 = 2
        · rw [if_pos h, if_pos h]; simp only; rw [upd_other _ _ _ _ (by omega)]
        · rw [if_neg h, if_neg h]
theorem setL (s : St) (r : Nat) (f : Int) (j : Nat) : (if j = r * 4 + 3 then .int .i64 f else s.cell j) = ({ s with L := upd s.L r f } : St).cell j := by
  refine cell_set ?_ (fun j hj => ?_) j
  · rw [St.cell3]; simp [upd_same]
  · unfold St.cell
    by_cases h : j % 4 = 0
    · rw [if_pos h, if_pos h]
    · rw [if_neg h, if_neg h]
      by_cases h : j % 4 = 1
      · rw [if_pos h, if_pos h]
      · rw [if_neg h, if_neg h]
        by_cases h : j % 4 = 2
        · rw [if_pos h, if_pos h]
        · rw [if_neg h, if_neg h]; simp only; rw [upd_other _ _ _ _ (by omega)]

/-- Block b holds the findings s. -/
def Fs (w : World) (b : Nat) (s : St) : Prop := w.rowIs b 33 40 s.cell

section
variable {w : World} {b : Nat} {s : St}
theorem Fs.c0 (h : Fs w b s) {r : Nat} (hr : r < 10) : w.cell? ⟨b, r * 4, none⟩ = some (.string (s.F r)) := by rw [World.rowIs.cell h (show r * 4 < 40 by omega), St.cell0]
theorem Fs.c1 (h : Fs w b s) {r : Nat} (hr : r < 10) : w.cell? ⟨b, r * 4 + 1, none⟩ = some (.string (s.P r)) := by rw [World.rowIs.cell h (show r * 4 + 1 < 40 by omega), St.cell1]
theorem Fs.c2 (h : Fs w b s) {r : Nat} (hr : r < 10) : w.cell? ⟨b, r * 4 + 2, none⟩ = some (.int .i64 (s.C r)) := by rw [World.rowIs.cell h (show r * 4 + 2 < 40 by omega), St.cell2]
theorem Fs.c3 (h : Fs w b s) {r : Nat} (hr : r < 10) : w.cell? ⟨b, r * 4 + 3, none⟩ = some (.int .i64 (s.L r)) := by rw [World.rowIs.cell h (show r * 4 + 3 < 40 by omega), St.cell3]
theorem Fs.fz (h : Fs w b s) (j : Nat) : w.frozen? ⟨b, j, none⟩ = false := World.rowIs.frozen h j
theorem Fs.setF (h : Fs w b s) (r : Nat) (f : ByteArray) : Fs (w.setCell ⟨b, r * 4, none⟩ (.string f)) b { s with F := upd s.F r f } := (World.rowIs.set h _ _).congr fun j _ => Qxb6617664a.setF s r f j
theorem Fs.setP (h : Fs w b s) (r : Nat) (f : ByteArray) : Fs (w.setCell ⟨b, r * 4 + 1, none⟩ (.string f)) b { s with P := upd s.P r f } := (World.rowIs.set h _ _).congr fun j _ => Qxb6617664a.setP s r f j
theorem Fs.setC (h : Fs w b s) (r : Nat) (f : Int) : Fs (w.setCell ⟨b, r * 4 + 2, none⟩ (.int .i64 f)) b { s with C := upd s.C r f } := (World.rowIs.set h _ _).congr fun j _ => Qxb6617664a.setC s r f j
theorem Fs.setL (h : Fs w b s) (r : Nat) (f : Int) : Fs (w.setCell ⟨b, r * 4 + 3, none⟩ (.int .i64 f)) b { s with L := upd s.L r f } := (World.rowIs.set h _ _).congr fun j _ => Qxb6617664a.setL s r f j
theorem Fs.lt (h : Fs w b s) : b < w.heap.size := World.rowIs.lt h
theorem Fs.below {w' : World} {N : Nat} (h : Fs w b s) (hb : Below N w w') (hN : b < N) : Fs w' b s := World.rowIs.of_block h (hb.block b hN)
end

set_option maxHeartbeats 400000 in
theorem after_yes (b r : Nat) (left : Int) (s : St) (w : World) (h : Fs w b s) (hr : r < 10) (hy : s.C r = 0 ∨ s.L r < left) :
    Calls Try.prog 9 #[.pointer (some ⟨b, r * 4, none⟩), .int .i64 left] w fun e w' => e = .returned (.bool true) ∧ w = w' := by
  have c2 := h.c2 hr
  have c3 := h.c3 hr
  clear h
  generalize s.C r = C at *
  generalize s.L r = L at *
  by_cases h0 : C = 0
  · have h0' : (C == 0) = true := beq_iff_eq.2 h0
    clear hy h0
    go_enter Try.func9, Try.ntmps9
    go_wp2
    go_ret
    exact ⟨rfl, rfl⟩
  · have h1 : L < left := by rcases hy with h | h; exact absurd h h0; exact h
    have h0' : (C == 0) = false := beq_eq_false_iff_ne.2 h0
    clear hy h0
    go_enter Try.func9, Try.ntmps9
    go_wp2
    go_ret
    exact ⟨rfl, rfl⟩

set_option maxHeartbeats 400000 in
theorem after_no (b r : Nat) (left : Int) (s : St) (w : World) (h : Fs w b s) (hr : r < 10) (hy : ¬ (s.C r = 0 ∨ s.L r < left)) :
    Calls Try.prog 9 #[.pointer (some ⟨b, r * 4, none⟩), .int .i64 left] w fun e w' => e = .returned (.bool false) ∧ w = w' := by
  have c2 := h.c2 hr
  have c3 := h.c3 hr
  clear h
  generalize s.C r = C at *
  generalize s.L r = L at *
  have h0' : (C == 0) = false := beq_eq_false_iff_ne.2 (fun h => hy (.inl h))
  have h1 : ¬ L < left := fun h => hy (.inr h)
  clear hy
  go_enter Try.func9, Try.ntmps9
  go_wp2
  go_ret
  exact ⟨rfl, rfl⟩

theorem below_set {b i : Nat} {w0 w : World} {v : Value} (h : Below b w0 w) : Below b w0 (w.setCell ⟨b, i, none⟩ v) := h.setCell (Nat.le_refl b) v

set_option maxHeartbeats 800000 in
theorem note_any (b r : Nat) (left : Int) (f p : ByteArray) (s : St) (w : World) (h : Fs w b s) (hr : r < 10) (hc : 0 ≤ s.C r ∧ s.C r ≤ 2199023255552) :
    Calls Try.prog 8 #[.pointer (some ⟨b, 0, none⟩), .int .i64 r, .int .i64 left, .string f, .string p] w fun e w' => e = .returned (.tuple #[]) ∧ Fs w' b (s.note r left f p) ∧ Below b w w' := by
  have d0 := h.c0 hr
  have d1 := h.c1 hr
  have d2 := h.c2 hr
  have d3 := h.c3 hr
  have e0 := h.fz (r * 4)
  have e1 := h.fz (r * 4 + 1)
  have e2 := h.fz (r * 4 + 2)
  have e3 := h.fz (r * 4 + 3)
  by_cases hy : s.C r = 0 ∨ s.L r < left
  · have HY : Hid (s.C r = 0 ∨ s.L r < left) := hy
    clear hy
    go_enter Try.func8, Try.ntmps8
    go_wp2_with (go_at_call 9; refine (after_yes b r left s _ h hr HY.out).mono ?_; rintro e w' ⟨rfl, rfl⟩)
    go_end0
    refine ⟨rfl, ?_, ?_⟩
    · unfold St.note
      rw [if_pos HY.out]
      exact (((h.setF r f).setP r p).setL r left).setC r _
    · exact below_set (below_set (below_set (below_set (Below.refl _ _))))
  · have HY : Hid (¬ (s.C r = 0 ∨ s.L r < left)) := hy
    clear hy
    go_enter Try.func8, Try.ntmps8
    go_wp2_with (go_at_call 9; refine (after_no b r left s _ h hr HY.out).mono ?_; rintro e w' ⟨rfl, rfl⟩)
    go_end0
    refine ⟨rfl, ?_, ?_⟩
    · unfold St.note
      rw [if_neg HY.out]
      exact h.setC r _
    · exact below_set (Below.refl _ _)

theorem zzNote_any (b r : Nat) (left : Int) (f p : ByteArray) (s : St) (w : World) (h : Fs w b s) (hr : r < 10) (hc : 0 ≤ s.C r ∧ s.C r ≤ 2199023255552) :
    Calls Try.prog 6 #[.pointer (some ⟨b, 0, none⟩), .int .i64 r, .int .i64 left, .string f, .string p] w fun e w' => e = .returned (.tuple #[]) ∧ Fs w' b (s.note r left f p) ∧ Below b w w' := by
  go_enter Try.func6, Try.ntmps6
  go_wp2_with (go_at_call 8; refine (note_any b r left f p s _ h hr hc).mono ?_; rintro e w' ⟨rfl, hf, hb⟩)
  go_end0
  exact ⟨rfl, hf, hb⟩
end Go.Proofs.Qxb6617664a
