/- THE WALK OF FnFullApplyingNewerKeepsIt. -/
import Derived.Test.Qxb6615153aFold
import Derived.Deep.Cut
import Derived.Deep.CutRange
namespace Go.Proofs.Qxb6615153a
open Go.RowKit

theorem Try.info3 : (Try.prog.info? 3).map (fun i => (i.zero, i.size, i.bytes)) = some (some (.int .i64 0), 1, 8) := by kernel_rfl

/-- The longer slice's numbers. -/
def z2 (len : Nat) (Z : Nat → Int) (x : Int) (i : Nat) : Int := if i < len then Z i else x

theorem Rising.snoc {len : Nat} {Z : Nat → Int} {x : Int} (h : Rising len Z) (h0 : 0 ≤ x) (hx : 0 < len → Z (len - 1) < x) : Rising (len + 1) (z2 len Z x) := by
  refine ⟨fun i hi => ?_, fun i hi0 hi => ?_⟩
  · unfold z2; split
    · exact h.1 i ‹_›
    · exact h0
  · unfold z2
    by_cases hl : i < len
    · rw [if_pos hl, if_pos (show i - 1 < len by omega)]; exact h.2 i hi0 hl
    · rw [if_neg hl, if_pos (show i - 1 < len by omega)]
      have : i = len := by omega
      subst this
      exact hx hi0

/-- The longer slice, k cells copied. -/
structure Cp (w wr : World) (len k : Nat) (Z : Nat → Int) : Prop where
  below : Below w.heap.size w wr
  row : wr.rowIs w.heap.size 3 (len + 1) (fun i => .int .i64 (if i < k then Z i else 0))

section
variable {w wr : World} {len k : Nat} {Z : Nat → Int}
theorem cp_start (w : World) (len : Nat) (Z : Nat → Int) : Cp w (w.alloc (.cells (madeCells #[.int .i64 0] (len + 1)) 3)) len 0 Z :=
  ⟨(Below.refl _ _).alloc (Nat.le_refl _) _, (World.rowIs_made w _ (len + 1) 3).congr (fun _ _ => by simp)⟩
theorem cp_step (h : Cp w wr len k Z) : Cp w (wr.setCell ⟨w.heap.size, k, none⟩ (.int .i64 (Z k))) len (k + 1) Z := by
  refine ⟨h.below.setCell (p := ⟨w.heap.size, k, none⟩) (Nat.le_refl _) _, (h.row.set k _).congr (fun i _ => ?_)⟩
  by_cases e : i = k
  · subst e; simp
  · rw [if_neg e]
    by_cases hlt : i < k
    · rw [if_pos hlt, if_pos (by omega)]
    · rw [if_neg hlt, if_neg (by omega)]
theorem cp_done (h : Cp w wr len len Z) (x : Int) : Below w.heap.size w (wr.setCell ⟨w.heap.size, len, none⟩ (.int .i64 x)) ∧ Row (wr.setCell ⟨w.heap.size, len, none⟩ (.int .i64 x)) (some ⟨w.heap.size, 0, none⟩) w.heap.size 0 (len + 1) (z2 len Z x) := by
  have hr : (wr.setCell ⟨w.heap.size, len, none⟩ (.int .i64 x)).rowIs w.heap.size 3 (len + 1) (fun i => .int .i64 (z2 len Z x i)) := by
    refine (h.row.set len (.int .i64 x)).congr (fun i hi => ?_)
    unfold z2
    by_cases e : i = len
    · subst e; simp
    · rw [if_neg e, if_pos (by omega), if_pos (by omega)]
  exact ⟨h.below.setCell (p := ⟨w.heap.size, len, none⟩) (Nat.le_refl _) _, ⟨fun _ => rfl, fun i hi => by rw [Nat.zero_add]; exact hr.cell hi⟩⟩
end

/-- THE PLAIN LAW. -/
theorem newer_law (full stub : Bool) (len : Nat) (lo x : Int) (Z : Nat → Int) (h : len ≠ 0) : fullB full stub len lo (Z 0) = fullB full stub (len + 1) lo (z2 len Z x 0) := by
  have e : z2 len Z x 0 = Z 0 := by unfold z2; rw [if_pos (by omega)]
  rw [e]
  simp [fullB, h]

set_option maxHeartbeats 3200000 in
set_option maxRecDepth 100000 in
theorem newer_any (a : Option Addr) (b off len cap : Nat) (x cn lo : Int) (full stub : Bool) (Z : Nat → Int) (w : World) (h : Row w a b off len Z) (hlm : len ≤ maxLen) :
    Calls Try.prog 8 #[.slice a len cap, .int .i64 x, .int .i64 cn, .int .i64 lo, .bool full, .bool stub] w fun e w' => e = .returned (.bool true) ∧ Below w.heap.size w w' := by
  have hlm' := hlm
  unfold maxLen at hlm'
  go_enter Try.func8, Try.ntmps8
  go_wp2_with fail
  refine (zzBytes38_any _ _ _ _ _ _ _ _ _ hlm).mono ?_
  rintro e w1 ⟨r, rfl, ⟨m1, rfl⟩, -⟩
  cases r
  · go_wp2
    go_ret
    exact ⟨rfl, below_drewN (Below.refl _ _) m1⟩
  by_cases hl : len ≤ 65536
  rotate_left
  · go_wp2
    go_ret
    exact ⟨rfl, below_drewN (Below.refl _ _) m1⟩
  clear hlm hlm'
  go_wp2_with fail
  refine (appliedFit_any _ b off len cap Z _ (by exact ⟨h.top, h.cell⟩) (by omega)).mono ?_
  rintro e w1 ⟨r, rfl, ⟨m2, rfl⟩, hr⟩
  cases r
  · go_wp2
    go_ret
    exact ⟨rfl, below_drewN (Below.refl _ _) _⟩
  have HR : Hid (Rising len Z) := hr rfl
  clear hr
  go_wp2_with fail
  refine (changeFit_any _ _ _ _).mono ?_
  rintro e w1 ⟨r, rfl, ⟨m3, hw1⟩, -⟩
  have hb1 : Below w.heap.size w w1 := by rw [hw1]; exact below_drewN (below_drewN (Below.refl _ _) _) _
  have h1 := h.below hb1
  clear hw1 h
  cases r
  · go_wp2
    go_ret
    exact ⟨rfl, hb1⟩
  by_cases hx : x < 0
  · go_wp2
    go_ret
    exact ⟨rfl, hb1⟩
  have hx' : decide (x < 0) = false := decide_eq_false hx
  have hd27 : decide ((65536 : Int) < (len : Int)) = false := decide_eq_false (by omega)
  have hmk : ∀ w, (Instr.makeSlice 31 (.int .i64 ((len : Int) + 1)) (.int .i64 ((len : Int) + 1))).run Try.prog w = .ok (.slice (some ⟨w.heap.size, 0, none⟩) (len + 1) (len + 1)) (w.alloc (.cells (madeCells #[.int .i64 0] (len + 1)) 3)) :=
    fun w => run_make_row' (P := Try.prog) 31 3 (.int .i64 0) 8 Try.underlying31 Try.info3 rfl .i64 .i64 (len + 1) (by omega) (by omega) w
  by_cases hno : 0 < len ∧ x ≤ Z (len - 1)
  · obtain ⟨h0, hxz⟩ := hno
    obtain rfl := h1.top h0
    have c0 := h1.cell (len - 1) (by omega)
    have hp : (0 : Int) < (len : Int) := by omega
    clear hmk h1
    go_wp2
    go_ret
    exact ⟨rfl, hb1⟩
  have HR2 : Hid (Rising (len + 1) (z2 len Z x)) := HR.out.snoc (by omega) (fun h0 => by
    by_cases hh : x ≤ Z (len - 1)
    · exact absurd ⟨h0, hh⟩ hno
    · omega)
  go_upto_region 7 with fail
  go_cut [54] from 17 (fun s54 wx => s54 = .bool false ∧ w1 = wx)
  case first =>
    clear hmk HR HR2
    by_cases h0 : 0 < len
    · obtain rfl := h1.top h0
      have c0 := h1.cell (len - 1) (by omega)
      have hp : (0 : Int) < (len : Int) := by omega
      have hxz : ¬ x ≤ Z (len - 1) := fun h => hno ⟨h0, h⟩
      clear h1 hno
      go_wp2
      go_meet
      exact ⟨rfl, rfl⟩
    · have hd : decide ((0 : Int) < (len : Int)) = false := decide_eq_false (by omega)
      clear h1 hno
      go_wp2
      go_meet
      exact ⟨rfl, rfl⟩
  case rest =>
  obtain ⟨rfl, rfl⟩ := hcut
  clear hno hx' hd27
  go_wp2
  clear hmk
  go_loopw [14] (fun v wr => ∃ k : Nat, k ≤ len ∧ v = .int .i64 k ∧ Cp w1 wr len k Z) (fun v _ => len - (intOf v).toNat)
  case atStart => exact ⟨0, Nat.zero_le _, rfl, cp_start w1 len Z⟩
  case round =>
    obtain ⟨k, hk, rfl, hC⟩ := hrel
    by_cases hlt : k < len
    · obtain rfl := h1.top (by omega)
      have c0 := (h1.below hC.below).cell k hlt
      have r1 := hC.row.cell (show k < len + 1 by omega)
      have r2 := hC.row.frozen k
      clear h1
      go_wp2
      go_roundw
      case rel => exact ⟨k + 1, by omega, by go_num, cp_step hC⟩
      case measure => simp [intOf]; omega
    · obtain ⟨n, rfl⟩ : ∃ n, n = k := ⟨_, rfl⟩
      obtain rfl : n = len := by omega
      have r1 := hC.row.cell (show n < n + 1 by omega)
      have r2 := hC.row.frozen n
      obtain ⟨hb2, hN⟩ := cp_done hC x
      have hR2 := h1.below hb2
      have hbw : Below w.heap.size w (wr.setCell ⟨w1.heap.size, n, none⟩ (.int .i64 x)) := hb1.trans (hb2.mono hb1.size)
      clear h1 hlt hk
      go_wp2_with fail
      generalize wr.setCell ⟨w1.heap.size, n, none⟩ (.int .i64 x) = w2 at *
      clear hC r1 r2 hb2 hb1
      refine (buildText_any _ b off n cap Z _ hR2 (by omega)).mono ?_
      rintro e w3 ⟨p, rfl, hB3⟩
      go_wp2_with fail
      refine (newChange_any _ _ _ _ _).mono ?_
      rintro e w4 ⟨rfl, hw4⟩
      obtain ⟨d1, d2, d3⟩ := chg_cells w3 cn lo full stub
      rw [← hw4] at d1 d2 d3
      have hB4 : Built w2 w4 p n (Z 0) := by rw [hw4]; exact hB3.alloc _
      clear hw4 hB3
      go_wp2_with fail
      refine (zzFull_any w2 _ p _ n lo (Z 0) full stub hB4.applied (by omega) hB4.first d1 d2 d3).mono ?_
      rintro e w5 ⟨rfl, m5, hw5⟩
      have hb25 : Below w2.heap.size w2 w5 := by rw [hw5]; exact below_drewN hB4.below _
      have hbw5 : Below w.heap.size w w5 := hbw.trans (hb25.mono hbw.size)
      have hR5 := hR2.below hb25
      have hN5 := hN.below hb25
      clear hw5 hB4 d1 d2 d3 hb25 hR2 hN hbw
      obtain ⟨A, hA⟩ : ∃ A, A = fullB full stub n lo (Z 0) := ⟨_, rfl⟩
      rw [← hA]
      have HA : Hid (A = fullB full stub n lo (Z 0)) := hA
      clear hA
      go_wp2_with fail
      refine (buildText_any _ w1.heap.size 0 (n + 1) _ (z2 n Z x) _ hN5 (by omega)).mono ?_
      rintro e w6 ⟨p', rfl, hB6⟩
      go_wp2_with fail
      refine (newChange_any _ _ _ _ _).mono ?_
      rintro e w7 ⟨rfl, hw7⟩
      obtain ⟨d1, d2, d3⟩ := chg_cells w6 cn lo full stub
      rw [← hw7] at d1 d2 d3
      have hB7 : Built w5 w7 p' (n + 1) (z2 n Z x 0) := by rw [hw7]; exact hB6.alloc _
      clear hw7 hB6
      go_wp2_with fail
      refine (zzFull_any w5 _ p' _ (n + 1) lo (z2 n Z x 0) full stub hB7.applied (by omega) hB7.first d1 d2 d3).mono ?_
      rintro e w8 ⟨rfl, m8, hw8⟩
      have hb58 : Below w5.heap.size w5 w8 := by rw [hw8]; exact below_drewN hB7.below _
      have hbw8 : Below w.heap.size w w8 := hbw5.trans (hb58.mono hbw5.size)
      have hR8 := hR5.below hb58
      have hN8 := hN5.below hb58
      clear hw8 hB7 d1 d2 d3 hb58 hR5 hN5 hbw5
      obtain ⟨B, hB⟩ : ∃ B, B = fullB full stub (n + 1) lo (z2 n Z x 0) := ⟨_, rfl⟩
      rw [← hB]
      have HB : Hid (B = fullB full stub (n + 1) lo (z2 n Z x 0)) := hB
      clear hB
      go_wp2_with fail
      refine (fullWant_any _ b off n _ Z lo full stub _ hR8 (by omega) HR).mono ?_
      rintro e w9 ⟨rfl, rfl⟩
      rw [← HA.out]
      have eA : (A != A) = false := by cases A <;> rfl
      go_wp2_with fail
      refine (fullWant_any _ w1.heap.size 0 (n + 1) _ (z2 n Z x) lo full stub _ hN8 (by omega) HR2).mono ?_
      rintro e w9 ⟨rfl, rfl⟩
      rw [← HB.out]
      have eB : (B != B) = false := by cases B <;> rfl
      by_cases h0 : n = 0
      · have h0' : ((n : Int) == 0) = true := beq_iff_eq.2 (by omega)
        clear h0 HR HR2 HA HB
        go_wp2
        go_ret
        exact ⟨rfl, hbw8⟩
      · have h0' : ((n : Int) == 0) = false := beq_eq_false_iff_ne.2 (by omega)
        have hAB : A = B := by rw [HA.out, HB.out]; exact newer_law full stub n lo x Z h0
        subst hAB
        have eq : (A == A) = true := by cases A <;> rfl
        clear h0 HR HR2 HA HB
        go_wp2
        go_ret
        exact ⟨rfl, hbw8⟩
end Go.Proofs.Qxb6615153a
