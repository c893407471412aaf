/- leavesFit, indexOfSlot. -/
import Derived.Test.Qxb6615153aSmall
namespace Go.Proofs.Qxb6615153a.Nk
open Go.RowKit
set_option linter.unusedVariables false

def slotOf (M : Nat → Nat → Int) (L i : Nat) : Nat := (M L i / 16777216).toNat

/-- It answers b; where b is true, p holds; what was there is there. -/
def SaysB (e : Ending) (w w' : World) (p : Prop) : Prop := ∃ b : Bool, e = .returned (.bool b) ∧ Below w.heap.size w w' ∧ (b = true → p)

section
variable {m : Option Addr} {mb mo N cap : Nat} {R : Nat → Option Addr} {Ln C RB RO : Nat → Nat} {M : Nat → Nat → Int} {w : World}

/-- 'ts' stands at place i of leaf L: so indexOfSlot says. -/
theorem indexOfSlot_any {L i c : Nat} (h : Lv w m mb mo N R Ln C RB RO M) (hL : L < N) (hF : Fit N Ln M (slotOf M)) (hi : i < Ln L) :
    Calls Try.prog 36 #[.slice (R L) (Ln L) c, .int .i64 (slotOf M L i : Nat)] w fun e w' => e = .returned (.int .i64 i) ∧ w = w' := by
  have hn := (hF.n L hL).2
  have hrt := h.rtop L hL (by omega)
  rw [hrt]
  have hc := h.cell L hL
  have hr := hF.rng L hL
  have hs := hF.slot L hL
  have hj := hF.inj L hL
  obtain ⟨n, hnn⟩ : ∃ n, Ln L = n := ⟨_, rfl⟩
  rw [hnn] at hi hn hc hr hs hj ⊢
  obtain ⟨ts, hts⟩ : ∃ ts, slotOf M L i = ts := ⟨_, rfl⟩
  rw [hts]
  have HJ : Hid (∀ j, j < n → slotOf M L j = ts → j = i) := fun j hjl e => hj j hjl i hi (e.trans hts.symm)
  have HS : Hid (∀ j, j < n → M L j / 16777216 = (slotOf M L j : Int)) := fun j hjl => (hs j hjl).1
  have HTS : Hid (slotOf M L i = ts) := hts
  clear hF hrt hnn hs hj hts
  go_enter Try.func36, Try.ntmps36
  go_wp2
  go_loopw [5] (fun v5 wr => ∃ k : Nat, k ≤ i ∧ v5 = .int .i64 k ∧ w = wr) (fun v5 _ => n - (intOf v5).toNat)
  case atStart => exact ⟨0, Nat.zero_le _, rfl, rfl⟩
  case round =>
    obtain ⟨k, hk, rfl, rfl⟩ := hrel
    have hkn : k < n := by omega
    have c0 := hc k hkn
    have r0 := hr k hkn
    by_cases e : k = i
    · subst e
      have hq : M L k / 16777216 = (ts : Int) := by rw [← HTS.out]; exact HS.out k hkn
      go_wp2
      go_ret
      exact ⟨rfl, rfl⟩
    · have hq : ¬ M L k / 16777216 = (ts : Int) := fun e2 => e (HJ.out k hkn (by have := HS.out k hkn; omega))
      go_wp2
      go_roundw
      case rel => exact ⟨k + 1, by omega, by go_num, by first | rfl | trivial⟩
      case measure => simp [intOf]; omega

/-- One leaf fits. -/
def Fit1 (n : Nat) (f : Nat → Nat) (i : Nat) : Prop := ∀ j, j < i → f j < n ∧ ∀ k, k < i → f j = f k → j = k

def seenB (f : Nat → Nat) (i s : Nat) : Bool := (List.range i).any fun j => f j == s
theorem seenB_iff (f : Nat → Nat) (i s : Nat) : seenB f i s = true ↔ ∃ j, j < i ∧ f j = s := by
  unfold seenB
  simp [List.any_eq_true]
theorem fit1_step {n i : Nat} {f : Nat → Nat} (h : Fit1 n f i) (h1 : f i < n) (h2 : seenB f i (f i) = false) : Fit1 n f (i + 1) := by
  have h3 : ∀ j, j < i → f j ≠ f i := fun j hj e => by
    have := (seenB_iff f i (f i)).2 ⟨j, hj, e⟩
    rw [h2] at this
    cases this
  intro j hj
  by_cases e : j = i
  · subst e
    refine ⟨h1, fun k hk e => ?_⟩
    by_cases e2 : k = j
    · exact e2.symm
    · exact absurd e.symm (h3 k (by omega))
  · refine ⟨(h j (by omega)).1, fun k hk e3 => ?_⟩
    by_cases e2 : k = i
    · subst e2; exact absurd e3 (h3 j (by omega))
    · exact (h j (by omega)).2 k (by omega) e3
theorem seenB_succ (f : Nat → Nat) (i s : Nat) : seenB f (i + 1) s = if s = f i then true else seenB f i s := by
  unfold seenB
  rw [List.range_succ, List.any_append]
  by_cases e : s = f i
  · subst e; simp
  · rw [if_neg e]
    have : (f i == s) = false := by simp; exact fun e2 => e e2.symm
    simp [this]

theorem zero93 : Try.zeroCells93 = Array.replicate 128 (.bool false) := by kernel_rfl
theorem seen_start (w : World) (f : Nat → Nat) : Own (w.alloc (.cells Try.zeroCells93 93)) w.heap.size 93 128 (fun s => .bool (seenB f 0 s)) := by
  refine ⟨Array.replicate 128 (.bool false), ?_, by simp, fun i hi => ?_⟩
  · rw [← zero93]; exact Go.Deep.blk_alloc_new _ _
  · rw [Array.getElem?_replicate, if_pos hi]; rfl

set_option maxHeartbeats 3200000 in
theorem fit_any (h : Lv w m mb mo N R Ln C RB RO M) (hN : N ≤ 4096) : Calls Try.prog 25 #[.slice m N cap] w fun e w' => SaysB e w w' (Fit N Ln M (slotOf M)) := by
  go_enter Try.func25, Try.ntmps25
  go_wp2
  go_loopw [3] (fun v3 wr => ∃ k : Nat, k ≤ N ∧ v3 = .int .i64 k ∧ Below w.heap.size w wr ∧ ∀ L, L < k → 0 < Ln L ∧ Ln L ≤ 128 ∧ Fit1 (Ln L) (slotOf M L) (Ln L)) (fun v3 _ => N - (intOf v3).toNat)
  case atStart => exact ⟨0, Nat.zero_le _, rfl, Below.refl _ _, fun L hL => absurd hL (Nat.not_lt_zero _)⟩
  case round =>
    obtain ⟨k, hk, rfl, hbw, hfit⟩ := hrel
    have HB : Hid (Below w.heap.size w wr) := hbw
    have HF : Hid (∀ L, L < k → 0 < Ln L ∧ Ln L ≤ 128 ∧ Fit1 (Ln L) (slotOf M L) (Ln L)) := hfit
    clear hfit
    by_cases hlt : k < N
    · obtain rfl := h.top (by omega)
      have h' := h.below hbw
      clear hbw
      have c0 := h'.row k hlt
      have hrt := h'.rtop k hlt
      have hc := h'.cell k hlt
      have hr := h'.rng k hlt
      obtain ⟨n, hnn⟩ : ∃ n, Ln k = n := ⟨_, rfl⟩
      rw [hnn] at c0 hc hr hrt
      have HN : Hid (Ln k = n) := hnn
      clear hnn
      by_cases hn0 : n = 0
      · subst hn0
        go_wp2
        go_ret
        exact ⟨false, rfl, HB.out, fun e => by cases e⟩
      · have hn0' : ¬ (n : Int) = 0 := by omega
        obtain ⟨Rk, hRk⟩ : ∃ Rk, R k = Rk := ⟨_, rfl⟩
        rw [hRk] at c0 hrt
        clear hRk
        obtain rfl := hrt (by omega)
        by_cases hn1 : 128 < n
        · have hn1' : (128 : Int) < (n : Int) := by omega
          go_wp2
          go_ret
          exact ⟨false, rfl, HB.out, fun e => by cases e⟩
        · have hn1' : ¬ (128 : Int) < (n : Int) := by omega
          obtain ⟨w0, rfl⟩ : ∃ w0, w0 = wr := ⟨_, rfl⟩
          have HZ : Hid (Own (w0.alloc (.cells Try.zeroCells93 93)) w0.heap.size 93 128 (fun s => .bool (seenB (slotOf M k) 0 s))) := seen_start w0 _
          go_wp2
          go_loopw [6] (fun v6 wi => ∃ i : Nat, i ≤ n ∧ v6 = .int .i64 i ∧ Below w0.heap.size w0 wi ∧ Fit1 n (slotOf M k) i ∧ Own wi w0.heap.size 93 128 (fun s => .bool (seenB (slotOf M k) i s))) (fun v6 _ => n - (intOf v6).toNat)
          case atStart => exact ⟨0, Nat.zero_le _, rfl, (Below.refl _ _).alloc (Nat.le_refl _) _, fun j hj => absurd hj (Nat.not_lt_zero _), HZ.out⟩
          case round =>
            obtain ⟨i, hi, rfl, hbi, hfi, hoi⟩ := hrel
            have HBI : Hid (Below w0.heap.size w0 wr) := hbi
            have HFI : Hid (Fit1 n (slotOf M k) i) := hfi
            by_cases hil : i < n
            · have c1 := (h'.below hbi).cell k hlt i (by rw [HN.out]; exact hil)
              have r1 := hr i hil
              have hq : M k i / 16777216 = (slotOf M k i : Int) := by unfold slotOf; omega
              have HOI : Hid (Own wr w0.heap.size 93 128 (fun s => .bool (seenB (slotOf M k) i s))) := hoi
              clear hbi hfi
              by_cases hs1 : slotOf M k i < n
              · have c2 := hoi.cell (i := slotOf M k i) (by omega)
                have c3 := hoi.frozen (slotOf M k i)
                have hs1' : ¬ (n : Int) ≤ (slotOf M k i : Int) := by omega
                have hs2' : (slotOf M k i : Int) < 128 := by omega
                clear hoi
                by_cases hsn : seenB (slotOf M k) i (slotOf M k i) = true
                · rw [hsn] at c2
                  go_wp2
                  go_ret
                  exact ⟨false, rfl, HB.out.trans (HBI.out.mono HB.out.size), fun e => by cases e⟩
                · have hsn' : seenB (slotOf M k) i (slotOf M k i) = false := by simpa using hsn
                  rw [hsn'] at c2
                  have HSN : Hid (seenB (slotOf M k) i (slotOf M k i) = false) := hsn'
                  clear hsn hsn'
                  go_wp2
                  go_roundw
                  case rel => exact ⟨i + 1, by omega, by go_num, HBI.out.setCell (p := ⟨w0.heap.size, slotOf M k i, none⟩) (Nat.le_refl _) _, fit1_step HFI.out hs1 HSN.out, (HOI.out.set _ _).congr (fun s _ => by rw [seenB_succ]; by_cases e : s = slotOf M k i <;> simp [e])⟩
                  case measure => simp [intOf]; omega
              · have hs1' : (n : Int) ≤ (slotOf M k i : Int) := by omega
                clear hoi
                go_wp2
                go_ret
                exact ⟨false, rfl, HB.out.trans (HBI.out.mono HB.out.size), fun e => by cases e⟩
            · obtain rfl : i = n := by omega
              clear hbi hfi hoi
              go_wp2
              go_roundw
              case rel =>
                refine ⟨k + 1, by omega, by go_num, HB.out.trans (HBI.out.mono HB.out.size), fun L hL => ?_⟩
                by_cases e : L = k
                · subst e; rw [HN.out]; exact ⟨by omega, by omega, HFI.out⟩
                · exact HF.out L (by omega)
              case measure => simp [intOf]; omega
    · obtain rfl : k = N := by omega
      go_wp2
      go_ret
      exact ⟨true, rfl, HB.out, fun _ => ⟨fun L hL => ⟨(HF.out L hL).1, (HF.out L hL).2.1⟩, h.rng, fun L hL i hi j hj e => ((HF.out L hL).2.2 i hi).2 j hj e, fun L hL i hi => ⟨by have := (h.rng L hL i hi).1; unfold slotOf; omega, ((HF.out L hL).2.2 i hi).1⟩⟩⟩
end
end Go.Proofs.Qxb6615153a.Nk
