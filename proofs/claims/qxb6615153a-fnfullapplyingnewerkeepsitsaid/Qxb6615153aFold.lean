/- THE WALK OF FnFullFoldOfAnyPrefix. -/
import Derived.Test.Qxb6615153aFit
namespace Go.Proofs.Qxb6615153a
open Go.RowKit

theorem Rising.drop {len k : Nat} {Z : Nat → Int} (h : Rising len Z) : Rising (len - k) (fun i => Z (k + i)) :=
  ⟨fun i hi => h.1 (k + i) (by omega), fun i h0 hi => by have := h.2 (k + i) (by omega) (by omega); rwa [show k + i - 1 = k + (i - 1) by omega] at this⟩

/-- THE PLAIN LAW: a fold takes fullness away only. -/
theorem fold_law (full stub : Bool) (len k : Nat) (lo : Int) (Z : Nat → Int) (hk : k ≤ len) (h : Rising len Z) :
    (!fullB full stub (len - k) lo (Z k)) = true ∨ k = len ∨ fullB full stub len lo (Z 0) = true := by
  by_cases e : k = len
  · exact .inr (.inl e)
  · have hz := h.le k (by omega)
    cases full <;> cases stub <;> simp [fullB, show len ≠ 0 by omega, show len - k ≠ 0 by omega]
    omega

/-- A change that was laid reads so. -/
theorem chg_cells (w : World) (n lo : Int) (full stub : Bool) :
    (w.alloc (.cells (chg n lo full stub) 92)).cell? ⟨w.heap.size, 10, none⟩ = some (.int .i64 lo) ∧ (w.alloc (.cells (chg n lo full stub) 92)).cell? ⟨w.heap.size, 13, none⟩ = some (.bool full) ∧ (w.alloc (.cells (chg n lo full stub) 92)).cell? ⟨w.heap.size, 14, none⟩ = some (.bool stub) := by
  refine ⟨?_, ?_, ?_⟩ <;> simp [chg]

/-- What was built still stands behind a new block. -/
theorem Built.alloc {w w1 : World} {p len : Nat} {z0 : Int} (h : Built w w1 p len z0) (o : Obj) : Built w (w1.alloc o) p len z0 := by
  have hs := h.below.size
  refine ⟨h.below.alloc hs o, ?_, fun hl => ?_⟩
  · rw [World.cell?_alloc_old _ _ _ (by show p ≠ w1.heap.size; have := World.block_lt_of_cell? _ _ h.applied; simp only at this; omega)]; exact h.applied
  · obtain ⟨cb, h1, h2⟩ := h.first hl
    refine ⟨cb, ?_, ?_⟩
    · rw [World.cell?_alloc_old _ _ _ (by show w.heap.size ≠ w1.heap.size; have := World.block_lt_of_cell? _ _ h1; simp only at this; omega)]; exact h1
    · rw [World.cell?_alloc_old _ _ _ (by show cb ≠ w1.heap.size; have := World.block_lt_of_cell? _ _ h2; simp only at this; omega)]; exact h2

theorem below_chg {w w1 : World} (h : Below w.heap.size w w1) (o : Obj) (m : Nat) : Below w.heap.size w ((w1.alloc o).drewN m) := below_drewN (h.alloc h.size o) m

/-- The address of a slice that is cut at k. -/
def CutAt (x : Addr) (len k : Nat) (p : Option Addr) : Prop := 0 < len - k → p = some (x.add k)
theorem row_mid {len k : Nat} (x : Addr) : CutAt x len k (some (x.add k)) := fun _ => rfl
theorem row_end {x : Addr} {len cap k : Nat} {p : Option Addr} (h : cap = k) (hlc : len ≤ cap) : CutAt x len k p := fun h' => by omega
theorem row_cut {w : World} {x : Addr} {b off len k : Nat} {Z : Nat → Int} (h : Row w (some x) b off len Z) : ∀ p, CutAt x len k p → Row w p b (off + k) (len - k) (fun i => Z (k + i)) := by
  intro p hp
  refine ⟨fun h0 => ?_, fun i hi => ?_⟩
  · have e := Option.some.inj (h.top (by omega))
    rw [hp h0, e]
    show some (({ block := b, off := off, spot := none } : Addr).add k) = _
    unfold Addr.add
    split <;> simp_all
  · have := h.cell (k + i) (by omega)
    rwa [← Nat.add_assoc] at this

set_option maxHeartbeats 3200000 in
theorem fold_some (x : Addr) (b off len cap k : Nat) (cn lo : Int) (full stub : Bool) (Z : Nat → Int) (w : World) (h : Row w (some x) b off len Z) (hlc : len ≤ cap) (hm : cap ≤ maxLen) (hl : len ≤ 65536) (hk : k ≤ len) :
    Calls Try.prog 4 #[.slice (some x) len cap, .int .i64 k, .int .i64 cn, .int .i64 lo, .bool full, .bool stub] w fun e w' => e = .returned (.bool true) ∧ Below w.heap.size w w' := by
  have hlm : len ≤ maxLen := Nat.le_trans hlc hm
  unfold maxLen at hm
  go_enter Try.func4, Try.ntmps4
  go_wp2_with fail
  refine (zzBytes15_any _ _ _ _ _ _ _ _ _ hlm).mono ?_
  rintro e w1 ⟨r, rfl, ⟨m1, rfl⟩, -⟩
  cases r
  · go_wp2
    go_ret
    exact ⟨rfl, below_drewN (Below.refl _ _) m1⟩
  go_wp2_with fail
  refine (appliedFit_any _ b off len cap Z _ (by exact ⟨h.top, h.cell⟩) (by omega)).mono ?_
  rintro e w1 ⟨r, rfl, ⟨m2, rfl⟩, hr⟩
  cases r
  · go_wp2
    go_ret
    exact ⟨rfl, below_drewN (Below.refl _ _) _⟩
  have HR : Hid (Rising len Z) := hr rfl
  clear hr
  go_wp2_with fail
  refine (changeFit_any _ _ _ _).mono ?_
  rintro e w1 ⟨r, rfl, ⟨m3, rfl⟩, -⟩
  cases r
  · go_wp2
    go_ret
    exact ⟨rfl, below_drewN (Below.refl _ _) _⟩
  go_wp2_with fail
  obtain ⟨w0, hw0⟩ : ∃ w0, w0 = w.drewN (m1 + m2 + m3) := ⟨_, rfl⟩
  rw [← hw0]
  have hb0 : Below w.heap.size w w0 := by rw [hw0]; exact below_drewN (Below.refl _ _) _
  have hR0 : Row w0 (some x) b off len Z := h.below hb0
  clear hw0 h
  refine (buildText_any _ b off len cap Z _ hR0 (by omega)).mono ?_
  rintro e w1 ⟨p, rfl, hB1⟩
  go_wp2_with fail
  refine (newChange_any _ _ _ _ _).mono ?_
  rintro e w2 ⟨rfl, hw2⟩
  obtain ⟨d1, d2, d3⟩ := chg_cells w1 cn lo full stub
  rw [← hw2] at d1 d2 d3
  have hB2 : Built w0 w2 p len (Z 0) := by rw [hw2]; exact hB1.alloc _
  have hb2 : Below w.heap.size w w2 := hb0.trans (hB2.below.mono hb0.size)
  clear hw2 hB1
  go_wp2_with fail
  refine (zzFull_any w0 _ p _ len lo (Z 0) full stub hB2.applied (by omega) hB2.first d1 d2 d3).mono ?_
  rintro e w3 ⟨rfl, m4, hw3⟩
  have hb3 : Below w.heap.size w w3 := by rw [hw3]; exact below_drewN hb2 _
  have hb03 : Below w0.heap.size w0 w3 := by rw [hw3]; exact below_drewN hB2.below _
  have hR3 : Row w3 (some x) b off len Z := hR0.below hb03
  clear hw3 hB2 hb2 d1 d2 d3 hb03 hR0 hb0
  have hsub := row_cut (k := k) hR3
  have HW : Hid ((!fullB full stub (len - k) lo (Z (k + 0))) = true ∨ k = len ∨ fullB full stub len lo (Z 0) = true) := fold_law full stub len k lo Z hk HR.out
  have HR2 : Hid (Rising (len - k) (fun i => Z (k + i))) := HR.out.drop
  obtain ⟨A, hA⟩ : ∃ A, A = fullB full stub len lo (Z 0) := ⟨_, rfl⟩
  rw [← hA]
  have HA : Hid (A = fullB full stub len lo (Z 0)) := hA
  clear hA
  by_cases hck : cap = k
  all_goals
    go_wp2_with fail
    refine (buildText_any _ b (off + k) (len - k) _ (fun i => Z (k + i)) _ (hsub _ (by first | exact row_end hck hlc | exact row_mid x)) (by omega)).mono ?_
    rintro e w4 ⟨p', rfl, hB4⟩
    go_wp2_with fail
    refine (newChange_any _ _ _ _ _).mono ?_
    rintro e w5 ⟨rfl, hw5⟩
    obtain ⟨d1, d2, d3⟩ := chg_cells w4 cn lo full stub
    rw [← hw5] at d1 d2 d3
    have hB5 : Built w3 w5 p' (len - k) (Z (k + 0)) := by rw [hw5]; exact hB4.alloc _
    have hb5 : Below w.heap.size w w5 := hb3.trans (hB5.below.mono hb3.size)
    clear hw5 hB4
    go_wp2_with fail
    refine (zzFull_any w3 _ p' _ (len - k) lo (Z (k + 0)) full stub hB5.applied (by omega) hB5.first d1 d2 d3).mono ?_
    rintro e w6 ⟨rfl, m6, hw6⟩
    have hb6 : Below w.heap.size w w6 := by rw [hw6]; exact below_drewN hb5 _
    have hb36 : Below w3.heap.size w3 w6 := by rw [hw6]; exact below_drewN hB5.below _
    have hR6 : Row w6 (some x) b off len Z := hR3.below hb36
    have hsub6 := row_cut (k := k) hR6
    obtain ⟨B, hB⟩ : ∃ B, B = fullB full stub (len - k) lo (Z (k + 0)) := ⟨_, rfl⟩
    rw [← hB]
    have HB : Hid (B = fullB full stub (len - k) lo (Z (k + 0))) := hB
    clear hB hw6 hB5 hb5 d1 d2 d3 hb36 hR3 hsub hb3
    go_wp2_with fail
    refine (fullWant_any _ b off len _ Z lo full stub _ hR6 (by omega) HR).mono ?_
    rintro e w7 ⟨rfl, rfl⟩
    rw [← HA.out]
    have eA : (A != A) = false := by cases A <;> rfl
    go_wp2_with fail
    refine (fullWant_any _ b (off + k) (len - k) _ (fun i => Z (k + i)) lo full stub _ (hsub6 _ (by first | exact row_end hck hlc | exact row_mid x)) (by omega) HR2).mono ?_
    rintro e w7 ⟨rfl, rfl⟩
    have HB2 : Hid (fullB full stub (len - k) lo ((fun i => Z (k + i)) 0) = B) := HB.out.symm
    rw [HB2.out]
    have eB : (B != B) = false := by cases B <;> rfl
    have HW2 : Hid ((!B) = true ∨ k = len ∨ A = true) := by rw [HA.out, HB.out]; exact HW.out
    clear HW HA HB HB2 HR HR2
    cases B
    · go_wp2
      go_ret
      exact ⟨rfl, hb6⟩
    · by_cases hkl : k = len
      · have hkl' : ((k : Int) == (len : Int)) = true := beq_iff_eq.2 (by omega)
        clear hkl
        go_wp2
        go_ret
        exact ⟨rfl, hb6⟩
      · have hkl' : ((k : Int) == (len : Int)) = false := beq_eq_false_iff_ne.2 (by omega)
        obtain rfl : A = true := by
          rcases HW2.out with h | h | h
          · cases h
          · exact absurd h hkl
          · exact h
        clear hkl
        go_wp2
        go_ret
        exact ⟨rfl, hb6⟩

set_option maxHeartbeats 3200000 in
theorem fold_none (cn lo : Int) (full stub : Bool) (w : World) :
    Calls Try.prog 4 #[.slice none 0 0, .int .i64 0, .int .i64 cn, .int .i64 lo, .bool full, .bool stub] w fun e w' => e = .returned (.bool true) ∧ Below w.heap.size w w' := by
  have h : ∀ w, Row w none 0 0 0 (fun _ => 0) := fun w => ⟨fun h => absurd h (Nat.lt_irrefl _), fun i hi => absurd hi (Nat.not_lt_zero _)⟩
  have HH : Hid (∀ w, Row w none 0 0 0 (fun _ => 0)) := h
  have HR : Hid (Rising 0 (fun _ => 0)) := ⟨fun i hi => absurd hi (Nat.not_lt_zero _), fun i _ hi => absurd hi (Nat.not_lt_zero _)⟩
  clear h
  go_enter Try.func4, Try.ntmps4
  go_wp2_with fail
  refine (zzBytes15_any _ _ _ _ _ _ _ _ _ (Nat.zero_le _)).mono ?_
  rintro e w1 ⟨r, rfl, ⟨m1, rfl⟩, -⟩
  cases r
  · go_wp2
    go_ret
    exact ⟨rfl, below_drewN (Below.refl _ _) m1⟩
  go_wp2_with fail
  refine (appliedFit_any _ 0 0 0 0 (fun _ => 0) _ (HH.out _) (by omega)).mono ?_
  rintro e w1 ⟨r, rfl, ⟨m2, rfl⟩, -⟩
  cases r
  · go_wp2
    go_ret
    exact ⟨rfl, below_drewN (Below.refl _ _) _⟩
  go_wp2_with fail
  refine (changeFit_any _ _ _ _).mono ?_
  rintro e w1 ⟨r, rfl, ⟨m3, rfl⟩, -⟩
  cases r
  · go_wp2
    go_ret
    exact ⟨rfl, below_drewN (Below.refl _ _) _⟩
  go_wp2_with fail
  obtain ⟨w0, hw0⟩ : ∃ w0, w0 = w.drewN (m1 + m2 + m3) := ⟨_, rfl⟩
  rw [← hw0]
  have hb0 : Below w.heap.size w w0 := by rw [hw0]; exact below_drewN (Below.refl _ _) _
  clear hw0
  refine (buildText_any _ 0 0 0 0 (fun _ => 0) _ (HH.out _) (by omega)).mono ?_
  rintro e w1 ⟨p, rfl, hB1⟩
  go_wp2_with fail
  refine (newChange_any _ _ _ _ _).mono ?_
  rintro e w2 ⟨rfl, hw2⟩
  obtain ⟨d1, d2, d3⟩ := chg_cells w1 cn lo full stub
  rw [← hw2] at d1 d2 d3
  have hB2 : Built w0 w2 p 0 0 := by rw [hw2]; exact hB1.alloc _
  have hb2 : Below w.heap.size w w2 := hb0.trans (hB2.below.mono hb0.size)
  clear hw2 hB1
  go_wp2_with fail
  refine (zzFull_any w0 _ p _ 0 lo 0 full stub hB2.applied (by omega) hB2.first d1 d2 d3).mono ?_
  rintro e w3 ⟨rfl, m4, hw3⟩
  have hb3 : Below w.heap.size w w3 := by rw [hw3]; exact below_drewN hb2 _
  clear hw3 hB2 hb2 d1 d2 d3 hb0
  rw [fullB_zero]
  go_wp2_with fail
  refine (buildText_any _ 0 0 0 0 (fun _ => 0) _ (HH.out _) (by omega)).mono ?_
  rintro e w4 ⟨p', rfl, hB4⟩
  go_wp2_with fail
  refine (newChange_any _ _ _ _ _).mono ?_
  rintro e w5 ⟨rfl, hw5⟩
  obtain ⟨d1, d2, d3⟩ := chg_cells w4 cn lo full stub
  rw [← hw5] at d1 d2 d3
  have hB5 : Built w3 w5 p' 0 0 := by rw [hw5]; exact hB4.alloc _
  have hb5 : Below w.heap.size w w5 := hb3.trans (hB5.below.mono hb3.size)
  clear hw5 hB4
  go_wp2_with fail
  refine (zzFull_any w3 _ p' _ 0 lo 0 full stub hB5.applied (by omega) hB5.first d1 d2 d3).mono ?_
  rintro e w6 ⟨rfl, m6, hw6⟩
  have hb6 : Below w.heap.size w w6 := by rw [hw6]; exact below_drewN hb5 _
  clear hw6 hB5 hb5 d1 d2 d3 hb3
  rw [fullB_zero]
  go_wp2_with fail
  refine (fullWant_any _ 0 0 0 0 (fun _ => 0) lo full stub _ (HH.out _) (by omega) HR).mono ?_
  rintro e w7 ⟨rfl, rfl⟩
  rw [fullB_zero]
  have eA : (full != full) = false := by cases full <;> rfl
  go_wp2_with fail
  refine (fullWant_any _ 0 0 0 0 (fun _ => 0) lo full stub _ (HH.out _) (by omega) HR).mono ?_
  rintro e w7 ⟨rfl, rfl⟩
  rw [fullB_zero]
  cases full
  · go_wp2
    go_ret
    exact ⟨rfl, hb6⟩
  · go_wp2
    go_ret
    exact ⟨rfl, hb6⟩

set_option maxHeartbeats 1600000 in
theorem fold_early (a : Option Addr) (len cap : Nat) (k cn lo : Int) (full stub : Bool) (w : World) (hl : len ≤ maxLen) (h : 65536 < len ∨ k < 0 ∨ (len : Int) < k) :
    Calls Try.prog 4 #[.slice a len cap, .int .i64 k, .int .i64 cn, .int .i64 lo, .bool full, .bool stub] w fun e w' => e = .returned (.bool true) ∧ Below w.heap.size w w' := by
  have hlm := hl
  unfold maxLen at hlm
  by_cases h1 : 65536 < len
  · clear h
    go_enter Try.func4, Try.ntmps4
    go_wp2_with fail
    refine (zzBytes15_any _ _ _ _ _ _ _ _ _ hl).mono ?_
    rintro e w1 ⟨r, rfl, ⟨m1, rfl⟩, -⟩
    cases r
    all_goals
      go_wp2
      go_ret
      exact ⟨rfl, below_drewN (Below.refl _ _) m1⟩
  · by_cases h2 : k < 0
    · clear h
      go_enter Try.func4, Try.ntmps4
      go_wp2_with fail
      refine (zzBytes15_any _ _ _ _ _ _ _ _ _ hl).mono ?_
      rintro e w1 ⟨r, rfl, ⟨m1, rfl⟩, -⟩
      cases r
      all_goals
        go_wp2
        go_ret
        exact ⟨rfl, below_drewN (Below.refl _ _) m1⟩
    · have h3 : (len : Int) < k := by omega
      clear h
      go_enter Try.func4, Try.ntmps4
      go_wp2_with fail
      refine (zzBytes15_any _ _ _ _ _ _ _ _ _ hl).mono ?_
      rintro e w1 ⟨r, rfl, ⟨m1, rfl⟩, -⟩
      cases r
      all_goals
        go_wp2
        go_ret
        exact ⟨rfl, below_drewN (Below.refl _ _) m1⟩
end Go.Proofs.Qxb6615153a
