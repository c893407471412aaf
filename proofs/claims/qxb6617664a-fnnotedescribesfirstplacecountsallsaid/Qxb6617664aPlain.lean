/- THE PLAIN LAW: what a script of notes leaves for one rule. -/
import Derived.Test.Qxb6617664aNote
namespace Go.Proofs.Qxb6617664a

section
variable (s : St) (Ru Le : Nat → Int) (Fi Pr : Nat → ByteArray)

/-- The findings when k places are noted. -/
def run : Nat → St
  | 0 => s
  | k + 1 => (run k).note (Ru k).toNat (Le k) (Fi k) (Pr k)

variable (r : Nat)
/-- How many of the first k places are of rule r; the greatest Left of these; the first of those with Left m. -/
def cnt : Nat → Nat
  | 0 => 0
  | k + 1 => if Ru k = r then cnt k + 1 else cnt k
def mx : Nat → Option Int
  | 0 => none
  | k + 1 => if Ru k = r then (match mx k with | none => some (Le k) | some m => if m < Le k then some (Le k) else some m) else mx k
def fst (m : Int) : Nat → Option Nat
  | 0 => none
  | k + 1 => match fst m k with | some i => some i | none => if Ru k = r ∧ Le k = m then some k else none
end

section
variable {s : St} {Ru Le : Nat → Int} {Fi Pr : Nat → ByteArray} {r : Nat}

theorem cnt_le (k : Nat) : cnt Ru r k ≤ k := by
  induction k with
  | zero => exact Nat.le_refl _
  | succ k ih => unfold cnt; split <;> omega

theorem mx_none (k : Nat) (h : mx Ru Le r k = none) : cnt Ru r k = 0 ∧ ∀ j, j < k → Ru j ≠ r := by
  induction k with
  | zero => exact ⟨rfl, fun j hj => absurd hj (Nat.not_lt_zero _)⟩
  | succ k ih =>
    unfold mx at h
    by_cases e : Ru k = r
    · rw [if_pos e] at h
      split at h
      · cases h
      · split at h <;> cases h
    · rw [if_neg e] at h
      obtain ⟨h1, h2⟩ := ih h
      refine ⟨by unfold cnt; rw [if_neg e]; exact h1, fun j hj => ?_⟩
      by_cases ej : j = k
      · subst ej; exact e
      · exact h2 j (by omega)

theorem mx_some (k : Nat) (m : Int) (h : mx Ru Le r k = some m) : 0 < cnt Ru r k ∧ ∀ j, j < k → Ru j = r → Le j ≤ m := by
  induction k generalizing m with
  | zero => cases h
  | succ k ih =>
    unfold mx at h
    by_cases e : Ru k = r
    · rw [if_pos e] at h
      refine ⟨by unfold cnt; rw [if_pos e]; omega, fun j hj hr => ?_⟩
      cases hm : mx Ru Le r k with
      | none =>
        rw [hm] at h
        have := Option.some.inj h
        by_cases ej : j = k
        · subst ej; omega
        · exact absurd hr ((mx_none k hm).2 j (by omega))
      | some m' =>
        rw [hm] at h
        have hle := (ih m' hm).2
        by_cases hlt : m' < Le k
        · simp only [hlt, if_true] at h
          have := Option.some.inj h
          by_cases ej : j = k
          · subst ej; omega
          · have := hle j (by omega) hr; omega
        · simp only [hlt, if_false] at h
          have := Option.some.inj h
          by_cases ej : j = k
          · subst ej; omega
          · have := hle j (by omega) hr; omega
    · rw [if_neg e] at h
      obtain ⟨h1, h2⟩ := ih m h
      refine ⟨by unfold cnt; rw [if_neg e]; exact h1, fun j hj hr => ?_⟩
      by_cases ej : j = k
      · subst ej; exact absurd hr e
      · exact h2 j (by omega) hr

theorem fst_some (m : Int) (k i : Nat) (h : fst Ru Le r m k = some i) : i < k ∧ Ru i = r ∧ Le i = m ∧ ∀ j, j < i → ¬ (Ru j = r ∧ Le j = m) := by
  induction k generalizing i with
  | zero => cases h
  | succ k ih =>
    unfold fst at h
    cases hf : fst Ru Le r m k with
    | some i' =>
      rw [hf] at h
      obtain rfl := Option.some.inj h
      obtain ⟨a, b, c, d⟩ := ih i' hf
      exact ⟨by omega, b, c, d⟩
    | none =>
      rw [hf] at h
      by_cases e : Ru k = r ∧ Le k = m
      · simp only [e, and_self, if_true] at h
        obtain rfl := Option.some.inj h
        refine ⟨by omega, e.1, e.2, ?_⟩
        clear ih h e
        -- none of the first k
        have : ∀ k, fst Ru Le r m k = none → ∀ j, j < k → ¬ (Ru j = r ∧ Le j = m) := by
          intro k
          induction k with
          | zero => intro _ j hj; exact absurd hj (Nat.not_lt_zero _)
          | succ k ih =>
            intro h j hj
            unfold fst at h
            cases hf : fst Ru Le r m k with
            | some i' => rw [hf] at h; cases h
            | none =>
              rw [hf] at h
              by_cases e : Ru k = r ∧ Le k = m
              · simp only [e, and_self, if_true] at h; cases h
              · by_cases ej : j = k
                · subst ej; exact e
                · exact ih hf j (by omega)
        exact this k hf
      · simp only [e, if_false] at h
        cases h

theorem fst_none (m : Int) : ∀ k, fst Ru Le r m k = none → ∀ j, j < k → ¬ (Ru j = r ∧ Le j = m) := by
  intro k
  induction k with
  | zero => intro _ j hj; exact absurd hj (Nat.not_lt_zero _)
  | succ k ih =>
    intro h j hj
    unfold fst at h
    cases hf : fst Ru Le r m k with
    | some i' => rw [hf] at h; cases h
    | none =>
      rw [hf] at h
      by_cases e : Ru k = r ∧ Le k = m
      · simp only [e, and_self, if_true] at h; cases h
      · by_cases ej : j = k
        · subst ej; exact e
        · exact ih hf j (by omega)

theorem note_C (s : St) (q : Nat) (left : Int) (f p : ByteArray) : (s.note q left f p).C r = if r = q then s.C r + 1 else s.C r := by
  unfold St.note
  by_cases h : r = q
  · subst h; rw [if_pos rfl]; split <;> simp [St.more, St.desc, upd_same]
  · rw [if_neg h]; split <;> simp [St.more, St.desc, upd_other _ _ _ _ h]

theorem note_other (s : St) (q : Nat) (left : Int) (f p : ByteArray) (h : r ≠ q) : (s.note q left f p).F r = s.F r ∧ (s.note q left f p).P r = s.P r ∧ (s.note q left f p).L r = s.L r := by
  unfold St.note
  split <;> simp [St.more, St.desc, upd_other _ _ _ _ h]

theorem note_yes (s : St) (left : Int) (f p : ByteArray) (h : s.C r = 0 ∨ s.L r < left) : (s.note r left f p).F r = f ∧ (s.note r left f p).P r = p ∧ (s.note r left f p).L r = left := by
  unfold St.note
  rw [if_pos h]
  simp [St.more, St.desc, upd_same]
theorem note_no (s : St) (left : Int) (f p : ByteArray) (h : ¬ (s.C r = 0 ∨ s.L r < left)) : (s.note r left f p).F r = s.F r ∧ (s.note r left f p).P r = s.P r ∧ (s.note r left f p).L r = s.L r := by
  unfold St.note
  rw [if_neg h]
  simp [St.more]

theorem run_C (k : Nat) (hr : ∀ j, j < k → 0 ≤ Ru j) : (run s Ru Le Fi Pr k).C r = s.C r + cnt Ru r k := by
  induction k with
  | zero => simp [run, cnt]
  | succ k ih =>
    unfold run cnt
    rw [note_C, ih (fun j hj => hr j (by omega))]
    have := hr k (by omega)
    by_cases e : Ru k = r
    · rw [if_pos e, if_pos (by omega)]; omega
    · rw [if_neg e, if_neg (by omega)]

/-- What stands described for rule r: the first description, or the first of the places with the greatest Left. -/
def Desc (s : St) (Ru Le : Nat → Int) (Fi Pr : Nat → ByteArray) (r k : Nat) (t : St) : Prop :=
  match mx Ru Le r k with
  | none => t.F r = s.F r ∧ t.P r = s.P r ∧ t.L r = s.L r
  | some m =>
    if 0 < s.C r ∧ m ≤ s.L r then t.F r = s.F r ∧ t.P r = s.P r ∧ t.L r = s.L r
    else ∃ i, i < k ∧ Ru i = r ∧ Le i = m ∧ (∀ j, j < i → ¬ (Ru j = r ∧ Le j = m)) ∧ t.F r = Fi i ∧ t.P r = Pr i ∧ t.L r = m

theorem run_desc (h0 : 0 ≤ s.C r) (k : Nat) (hr : ∀ j, j < k → 0 ≤ Ru j) : Desc s Ru Le Fi Pr r k (run s Ru Le Fi Pr k) := by
  induction k with
  | zero => exact ⟨rfl, rfl, rfl⟩
  | succ k ih =>
    have hC := run_C (s := s) (Le := Le) (Fi := Fi) (Pr := Pr) (r := r) k (fun j hj => hr j (by omega))
    have hk := hr k (by omega)
    replace ih := ih (fun j hj => hr j (by omega))
    unfold run
    generalize run s Ru Le Fi Pr k = t at *
    unfold Desc at *
    unfold mx
    by_cases e : Ru k = r
    · rw [if_pos e]
      have eq : (Ru k).toNat = r := by omega
      rw [eq]
      cases hm : mx Ru Le r k with
      | none =>
        rw [hm] at ih
        obtain ⟨z, hno⟩ := mx_none k hm
        simp only [] at ih ⊢
        obtain ⟨i1, i2, i3⟩ := ih
        by_cases hkeep : 0 < s.C r ∧ Le k ≤ s.L r
        · rw [if_pos hkeep]
          obtain ⟨n1, n2, n3⟩ := note_no t (Le k) (Fi k) (Pr k) (by rw [hC, i3]; omega)
          exact ⟨n1.trans i1, n2.trans i2, n3.trans i3⟩
        · rw [if_neg hkeep]
          obtain ⟨n1, n2, n3⟩ := note_yes t (Le k) (Fi k) (Pr k) (by rw [hC, i3]; omega)
          exact ⟨k, by omega, e, rfl, fun j hj h => hno j hj h.1, n1, n2, n3⟩
      | some m =>
        rw [hm] at ih
        obtain ⟨z, hle⟩ := mx_some k m hm
        simp only [] at ih ⊢
        by_cases hkeep : 0 < s.C r ∧ m ≤ s.L r
        · rw [if_pos hkeep] at ih
          obtain ⟨i1, i2, i3⟩ := ih
          by_cases hup : s.L r < Le k
          · rw [if_pos (show m < Le k by omega)]
            simp only []
            rw [if_neg (by omega)]
            obtain ⟨n1, n2, n3⟩ := note_yes t (Le k) (Fi k) (Pr k) (by rw [i3]; exact .inr hup)
            exact ⟨k, by omega, e, rfl, fun j hj h => by have := hle j hj h.1; omega, n1, n2, n3⟩
          · obtain ⟨n1, n2, n3⟩ := note_no t (Le k) (Fi k) (Pr k) (by rw [hC, i3]; omega)
            by_cases hlt : m < Le k
            · rw [if_pos hlt]; simp only []
              rw [if_pos (by omega)]
              exact ⟨n1.trans i1, n2.trans i2, n3.trans i3⟩
            · rw [if_neg hlt]; simp only []
              rw [if_pos hkeep]
              exact ⟨n1.trans i1, n2.trans i2, n3.trans i3⟩
        · rw [if_neg hkeep] at ih
          obtain ⟨i, hi, a1, a2, a3, i1, i2, i3⟩ := ih
          by_cases hlt : m < Le k
          · rw [if_pos hlt]; simp only []
            rw [if_neg (by omega)]
            obtain ⟨n1, n2, n3⟩ := note_yes t (Le k) (Fi k) (Pr k) (by rw [i3]; exact .inr hlt)
            exact ⟨k, by omega, e, rfl, fun j hj h => by have := hle j hj h.1; omega, n1, n2, n3⟩
          · rw [if_neg hlt]; simp only []
            rw [if_neg hkeep]
            obtain ⟨n1, n2, n3⟩ := note_no t (Le k) (Fi k) (Pr k) (by rw [hC, i3]; omega)
            exact ⟨i, by omega, a1, a2, a3, n1.trans i1, n2.trans i2, n3.trans i3⟩
    · rw [if_neg e]
      obtain ⟨n1, n2, n3⟩ := note_other (r := r) t (Ru k).toNat (Le k) (Fi k) (Pr k) (by omega)
      cases hm : mx Ru Le r k with
      | none =>
        rw [hm] at ih
        simp only [] at ih ⊢
        exact ⟨n1.trans ih.1, n2.trans ih.2.1, n3.trans ih.2.2⟩
      | some m =>
        rw [hm] at ih
        simp only [] at ih ⊢
        by_cases hkeep : 0 < s.C r ∧ m ≤ s.L r
        · rw [if_pos hkeep] at ih ⊢
          exact ⟨n1.trans ih.1, n2.trans ih.2.1, n3.trans ih.2.2⟩
        · rw [if_neg hkeep] at ih ⊢
          obtain ⟨i, hi, a1, a2, a3, i1, i2, i3⟩ := ih
          exact ⟨i, by omega, a1, a2, a3, n1.trans i1, n2.trans i2, n3.trans i3⟩

/-- THE LAW, in the three ways of the check. -/
theorem law_none (h0 : 0 ≤ s.C r) (n : Nat) (hr : ∀ j, j < n → 0 ≤ Ru j) (h : cnt Ru r n = 0) : (run s Ru Le Fi Pr n).F r = s.F r ∧ (run s Ru Le Fi Pr n).P r = s.P r ∧ (run s Ru Le Fi Pr n).L r = s.L r := by
  have := run_desc (s := s) (Le := Le) (Fi := Fi) (Pr := Pr) (r := r) h0 n hr
  unfold Desc at this
  cases hm : mx Ru Le r n with
  | none => rw [hm] at this; exact this
  | some m => have := (mx_some n m hm).1; omega
theorem law_keep (h0 : 0 ≤ s.C r) (n : Nat) (hr : ∀ j, j < n → 0 ≤ Ru j) (m : Int) (hm : mx Ru Le r n = some m) (h : 0 < s.C r ∧ m ≤ s.L r) : (run s Ru Le Fi Pr n).F r = s.F r ∧ (run s Ru Le Fi Pr n).P r = s.P r ∧ (run s Ru Le Fi Pr n).L r = s.L r := by
  have := run_desc (s := s) (Le := Le) (Fi := Fi) (Pr := Pr) (r := r) h0 n hr
  unfold Desc at this
  rw [hm] at this
  simp only [] at this
  rwa [if_pos h] at this
theorem law_first (h0 : 0 ≤ s.C r) (n : Nat) (hr : ∀ j, j < n → 0 ≤ Ru j) (m : Int) (hm : mx Ru Le r n = some m) (h : ¬ (0 < s.C r ∧ m ≤ s.L r)) :
    ∃ i, fst Ru Le r m n = some i ∧ i < n ∧ (run s Ru Le Fi Pr n).F r = Fi i ∧ (run s Ru Le Fi Pr n).P r = Pr i ∧ (run s Ru Le Fi Pr n).L r = Le i := by
  have := run_desc (s := s) (Le := Le) (Fi := Fi) (Pr := Pr) (r := r) h0 n hr
  unfold Desc at this
  rw [hm] at this
  simp only [] at this
  rw [if_neg h] at this
  obtain ⟨i, hi, a1, a2, a3, i1, i2, i3⟩ := this
  cases hf : fst Ru Le r m n with
  | none => exact absurd ⟨a1, a2⟩ (fst_none m n hf i hi)
  | some i' =>
    obtain ⟨b0, b1, b2, b3⟩ := fst_some m n i' hf
    have : i' = i := by
      rcases Nat.lt_trichotomy i i' with h | h | h
      · exact absurd ⟨a1, a2⟩ (b3 i h)
      · exact h.symm
      · exact absurd ⟨b1, b2⟩ (a3 i' h)
    subst this
    exact ⟨i', rfl, hi, i1, i2, by rw [i3, a2]⟩
end
end Go.Proofs.Qxb6617664a
