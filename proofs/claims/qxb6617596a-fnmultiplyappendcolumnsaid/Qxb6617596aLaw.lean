/- THE WALK OF THE LAW ITSELF. -/
import Derived.Test.Qxb6617596aRowsMade
import Derived.Laws.CopyOwn
import Derived.Laws.Cover3
import Derived.Deep.Cut
import Derived.Deep.CutRange
import Derived.BigQuiet
import Derived.Deep.DeepMust
namespace Go.Proofs.Qxb6617596a
open Go.RowKit Fl
attribute [local go_sem] run_store_float

theorem Try.size24 : (Try.prog.info? 24).map (·.size) = some 1 := by kernel_rfl
def vcells (lv : Nat) (V : Nat → Nat) : List Value := (List.range lv).map fun i => .float .f64 (V i)
theorem blk_new (w : World) (o : Obj) : (w.alloc o).heap[w.heap.size]? = some o := Go.Deep.blk_alloc_new w o
theorem vcells_at {w : World} {va : Addr} {vb vo lv : Nat} {V : Nat → Nat} (hV : Vec w (some va) vb vo lv V) (h : 0 < lv) {o : Obj} : ∀ j u, (vcells lv V)[j]? = some u → (w.alloc o).cell? (va.add j) = some u := by
  intro j u hj
  have e := hV.top h
  cases e
  have hjl : j < lv := by
    have := (List.getElem?_eq_some_iff.1 hj).1
    simpa [vcells] using this
  have hc := hV.cell j hjl
  rw [Go.WideShapes.add_plain]
  rw [World.cell?_alloc_old _ _ _ (by show vb ≠ w.heap.size; have := World.block_lt_of_cell? _ _ hc; simp at this; omega), hc]
  simp [vcells, hjl] at hj
  rw [hj]
theorem vcells_one (lv : Nat) (V : Nat → Nat) : ∀ u ∈ vcells lv V, u.oneCell' = true := by
  intro u hu
  obtain ⟨i, _, rfl⟩ := List.mem_map.1 hu
  rfl
theorem vec_copied {w : World} {g lv : Nat} {V : Nat → Nat} {t : TypeId} {Zs : List Value} (h : w.heap[g]? = some (.cells (Zs.take 0 ++ vcells lv V ++ Zs.drop (0 + (vcells lv V).length)).toArray t (0, 0))) : Vec w (some ⟨g, 0, none⟩) g 0 lv V := by
  refine ⟨fun _ => rfl, fun i hi => ?_⟩
  rw [Nat.zero_add]
  simp only [World.cell?, h]
  have hl : i < (vcells lv V).length := by simpa [vcells] using hi
  simp only [List.take_zero, List.nil_append, List.getElem?_toArray, List.getElem?_append_left hl]
  simp [vcells, hi]
/-- 'copy(zzc, v)': the run, and what the copy holds. -/
theorem copy_run (w : World) (va : Addr) (vb vo lv cv : Nat) (V : Nat → Nat) (hV : Vec w (some va) vb vo lv V) :
    ∃ w2, (∀ ty, (Builtin.copy_ #[23, 23] ty #[.slice (some ⟨w.heap.size, 0, none⟩) lv lv, .slice (some va) lv cv]).run Try.prog (w.alloc (.cells (madeCells #[.float .f64 0] lv) 24)) = .ok (goInt lv) w2) ∧
      Vec w2 (some ⟨w.heap.size, 0, none⟩) w.heap.size 0 lv V ∧ Below w.heap.size w w2 := by
  have hb : Below w.heap.size w (w.alloc (.cells (madeCells #[.float .f64 0] lv) 24)) := (Below.refl _ _).alloc (Nat.le_refl _) _
  by_cases h0 : lv = 0
  · subst h0
    exact ⟨_, fun ty => run_copy_none _ 23 23 ty 24 _ _ 0 0 0 cv Try.underlying23 Try.size24 rfl, ⟨fun _ => rfl, fun i hi => absurd hi (Nat.not_lt_zero _)⟩, hb⟩
  · have hlen : (vcells lv V).length = lv := by simp [vcells]
    have hr := fun ty => run_copy_row (P := Try.prog) (w.alloc (.cells (madeCells #[.float .f64 0] lv) 24)) 23 23 ty 24 w.heap.size 0 lv lv va lv cv (madeCells #[.float .f64 0] lv) 24 (vcells lv V) Try.underlying23 Try.size24 (blk_new w _) (by rw [hlen]; exact (Nat.min_self _).symm) (vcells_at hV (by omega)) (by rw [hlen, size_madeCells]; omega) (vcells_one lv V)
    exact ⟨_, fun ty => (hr ty).trans (by rw [hlen]), vec_copied (setRow_heap (w.alloc (.cells (madeCells #[.float .f64 0] lv) 24)) w.heap.size _ _ 24 (0, 0) (blk_new w _)), below_setRow hb (Nat.le_refl _) _⟩

set_option maxHeartbeats 3200000 in
set_option maxRecDepth 100000 in
theorem law_any (m v a : Option Addr) (mb mo lm cm vb vo lv cv ab ao la ca x : Nat) (R : Nat → Option Addr) (L C RB RO : Nat → Nat) (Z : Nat → Nat → Nat) (V A : Nat → Nat) (w : World)
    (hM : Mat w m mb mo lm R L C RB RO Z) (hV : Vec w v vb vo lv V) (hA : Vec w a ab ao la A) (hvn : v = none → lv = 0 ∧ cv = 0) (hlm : lm ≤ maxLen) (hlv : lv ≤ maxLen) (hla : la ≤ maxLen) (hL : ∀ r, r < lm → L r ≤ maxLen) :
    Calls Try.prog 3 #[.slice m lm cm, .slice v lv cv, .slice a la ca, .float .f64 x] w fun e w' => e = .returned (.bool true) ∧ Below w.heap.size w w' := by
  go_enter Try.func3, Try.ntmps3
  go_wp2_with fail
  refine (zzBytes_any m v a mb mo lm cm lv cv la ca x R L C RB RO Z _ hM hlm hlv hla hL).mono ?_
  rintro e w' ⟨b, rfl, rfl, hb⟩
  cases b
  · go_wp2
    go_ret
    exact ⟨rfl, Below.refl _ _⟩
  obtain ⟨hlm, hlv, hla, hL⟩ := hb rfl
  clear hb
  go_wp2_with fail
  refine (tooBig_any m v a mb mo lm cm lv cv la ca R L C RB RO Z _ hM hlm hlv hla hL).mono ?_
  rintro e w' ⟨b, rfl, rfl, -⟩
  cases b
  rotate_left
  · go_wp2
    go_ret
    exact ⟨rfl, Below.refl _ _⟩
  go_wp2_with fail
  refine (rowsFit_any m v mb mo lm cm lv cv R L C RB RO Z _ hM hlm hL).mono ?_
  rintro e w' ⟨b, rfl, rfl, hb⟩
  cases b
  · go_wp2
    go_ret
    exact ⟨rfl, Below.refl _ _⟩
  have hfit := hb rfl
  clear hb
  have hne := fun w => run_neq_slice_nil (P := Try.prog) w 23 24 v lv cv Try.underlying23
  go_upto_if 37 with fail
  clear hne
  go_cut [1] from 22 (fun s1 wx => ∃ (v' : Option Addr) (vb' vo' cv' : Nat), s1 = .slice v' lv cv' ∧ Vec wx v' vb' vo' lv V ∧ Below w.heap.size w wx)
  case first =>
    cases v with
    | none =>
      obtain ⟨rfl, rfl⟩ := hvn rfl
      go_wp2
      go_meet
      exact ⟨none, vb, vo, 0, rfl, hV, Below.refl _ _⟩
    | some va =>
      have hmk := run_make_row' (P := Try.prog) 23 24 (.float .f64 0) 8 Try.underlying23 Try.info24 rfl .i64 .i64 lv (by omega) (by omega)
      clear hvn
      obtain ⟨w2, hcp, hv2, hb2⟩ := copy_run w va vb vo lv cv V hV
      have HV : Hid (Vec w2 (some ⟨w.heap.size, 0, none⟩) w.heap.size 0 lv V) := hv2
      clear hv2
      go_wp2
      go_meet
      exact ⟨_, w.heap.size, 0, lv, rfl, HV.out, hb2⟩
  case rest =>
    obtain ⟨v', vb', vo', cv', rfl, hV1, hB1⟩ := hcut
    have hM1 : Mat wc m mb mo lm R L C RB RO Z := hM.below hB1
    have hA1 : Vec wc a ab ao la A := hA.below hB1
    clear hM hV hA hvn
    go_wp2_with fail
    refine (zzMultiply_any m v' mb mo lm cm vb' vo' lv cv' R L C RB RO Z V _ hlm (fun r hr => ⟨Nat.le_trans (hL r hr) (by omega), hfit r hr⟩) hM1 hV1).mono ?_
    rintro e w2 ⟨rfl, O, hO⟩
    have hB2 : Below w.heap.size w w2 := hB1.trans (hO.below.mono hB1.size)
    have hM2 := hM1.below hO.below
    have hA2 := hA1.below hO.below
    have hV2 := hV1.below hO.below
    clear hM1 hA1 hV1
    go_upto_if 58 with fail
    go_cut [11] from 22 (fun s11 wx => w2 = wx ∧ ∃ n : Nat, s11 = .int .i64 n ∧ n ≤ lm ∧ n ≤ la)
    case first =>
      by_cases hlt : la < lm
      · go_wp2
        go_meet
        exact ⟨rfl, la, rfl, by omega, by omega⟩
      · go_wp2
        go_meet
        exact ⟨rfl, lm, rfl, by omega, by omega⟩
    case rest =>
    obtain ⟨rfl, n, rfl, hnm, hna⟩ := hcut
    have hmk := run_make_row' (P := Try.prog) 22 23 (.slice none 0 0) 24 Try.underlying22 Try.info23 rfl .i64 .i64 lm (by omega) (by omega)
    go_wp2
    clear hmk
    go_loopw [13] (fun i wr => ∃ k : Nat, k ≤ lm ∧ i = .int .i64 k ∧ Outer w2 wr lm n k R L C Z A) (fun i _ => lm - (intOf i).toNat)
    case atStart => exact ⟨0, Nat.zero_le _, rfl, outer_start w2 lm n R L C Z A⟩
    case round =>
      obtain ⟨k, hk, rfl, hOu⟩ := hrel
      by_cases hlt : k < lm
      · obtain rfl := hM2.top (by omega)
        have hM' := hM2.below hOu.below
        have c0 := hM'.row k hlt
        have hl := hL k hlt
        by_cases hkn : k < n
        · obtain ⟨Rk, hRk⟩ : ∃ Rk, R k = Rk := ⟨_, rfl⟩
          rw [hRk] at c0
          have hvk := hM2.vec k hlt
          rw [hRk] at hvk
          have HM : Hid (Mat w2 (some ⟨mb, mo, none⟩) mb mo lm R L C RB RO Z) := hM2
          clear hRk hM' hM2
          have hmk : ∀ w, (Instr.makeSlice 23 (.int .i64 ((L k : Int) + 1)) (.int .i64 ((L k : Int) + 1))).run Try.prog w = .ok (.slice (some ⟨w.heap.size, 0, none⟩) (L k + 1) (L k + 1)) (w.alloc (.cells (madeCells #[.float .f64 0] (L k + 1)) 24)) :=
            fun w => run_make_row' (P := Try.prog) 23 24 (.float .f64 0) 8 Try.underlying23 Try.info24 rfl .i64 .i64 (L k + 1) (by omega) (by omega) w
          have hsz := hOu.size
          rw [Nat.min_eq_left (show k ≤ n by omega)] at hsz
          go_wp2
          clear hmk hsz
          have hI0 := inner_start hOu hkn
          clear hOu
          go_loopw [16] (fun j wi => ∃ c : Nat, c ≤ L k ∧ j = .int .i64 c ∧ Inner w2 wi lm n k c R L C Z A) (fun j _ => L k - (intOf j).toNat)
          case atStart => exact ⟨0, Nat.zero_le _, rfl, hI0⟩
          case round =>
            obtain ⟨c, hc, rfl, hI⟩ := hrel
            clear hI0
            by_cases hcl : c < L k
            · obtain rfl := hvk.top (by omega)
              have r0 := (hvk.below hI.below).cell c hcl
              have r1 := hI.cur.cell (show c < L k + 1 by omega)
              have r2 := hI.cur.frozen c
              go_wp2
              go_roundw
              case rel => exact ⟨c + 1, by omega, by go_num, inner_step hI⟩
              case measure => simp [intOf]; omega
            · obtain rfl : c = L k := by omega
              obtain rfl := hA2.top (by omega)
              have r0 := (hA2.below hI.below).cell k (by omega)
              have r1 := hI.cur.cell (show L k < L k + 1 by omega)
              have r2 := hI.cur.frozen (L k)
              have r3 : ∀ u, (wr.setCell ⟨w2.heap.size + 1 + k, L k, none⟩ u).cell? ⟨w2.heap.size, k, none⟩ = some (topV w2.heap.size n R L C k k) := fun u => (hI.top.setOther (by show w2.heap.size ≠ w2.heap.size + 1 + k; omega) u).cell hlt
              have r4 : ∀ u, (wr.setCell ⟨w2.heap.size + 1 + k, L k, none⟩ u).frozen? ⟨w2.heap.size, k, none⟩ = false := fun u => (hI.top.setOther (by show w2.heap.size ≠ w2.heap.size + 1 + k; omega) u).frozen k
              have hkl : k < la := by omega
              go_wp2
              go_roundw
              case rel => exact ⟨k + 1, by omega, by go_num, inner_done hI hkn⟩
              case measure => simp [intOf]; omega
        · have r3 := hOu.top.cell hlt
          have r4 := hOu.top.frozen k
          clear hM'
          go_wp2
          go_roundw
          case rel => exact ⟨k + 1, by omega, by go_num, outer_keep hOu hkn⟩
          case measure => simp [intOf]; omega
      · obtain rfl : k = lm := by omega
        have hM3 := outer_mat hOu hM2
        have hB3 : Below w.heap.size w wr := hB2.trans (hOu.below.mono hB2.size)
        have hV3 := hV2.below hOu.below
        have hMo := hM2.below hOu.below
        have hA3 := hA2.below hOu.below
        have hO3 : wr.rowIs wc.heap.size 24 k (fun j => .float .f64 (O j)) := hO.row.of_block (hOu.below.block _ (by have := hO.row.lt; omega))
        have hmk : ∀ w, (Instr.makeSlice 23 (.int .i64 ((lv : Int) + 1)) (.int .i64 ((lv : Int) + 1))).run Try.prog w = .ok (.slice (some ⟨w.heap.size, 0, none⟩) (lv + 1) (lv + 1)) (w.alloc (.cells (madeCells #[.float .f64 0] (lv + 1)) 24)) :=
          fun w => run_make_row' (P := Try.prog) 23 24 (.float .f64 0) 8 Try.underlying23 Try.info24 rfl .i64 .i64 (lv + 1) (by omega) (by omega) w
        have HO : Hid (∀ j, j < k → cls (O j) = dotC (Z j) V (L j)) := hO.val
        clear hM2 hV2 hA2 hO hB2 hlt hk
        generalize w2.heap.size = B2 at *
        obtain ⟨w3, rfl⟩ : ∃ w3, w3 = wr := ⟨_, rfl⟩
        clear hOu
        go_wp2
        clear hmk
        go_loopw [18] (fun j wi => ∃ c : Nat, c ≤ lv ∧ j = .int .i64 c ∧ Vv w3 wi lv c V) (fun j _ => lv - (intOf j).toNat)
        case atStart => exact ⟨0, Nat.zero_le _, rfl, vv_start w3 lv V⟩
        case round =>
          obtain ⟨c, hc, rfl, hVv⟩ := hrel
          by_cases hcl : c < lv
          · obtain rfl := hV3.top (by omega)
            have r0 := (hV3.below hVv.below).cell c hcl
            have r1 := hVv.row.cell (show c < lv + 1 by omega)
            have r2 := hVv.row.frozen c
            clear hM3 hMo hA3 hO3
            go_wp2
            go_roundw
            case rel => exact ⟨c + 1, by omega, by go_num, vv_step hVv⟩
            case measure => simp [intOf]; omega
          · obtain rfl : c = lv := by omega
            have r1 := hVv.row.cell (show c < c + 1 by omega)
            have r2 := hVv.row.frozen c
            obtain ⟨hB4, hV4⟩ := vv_done hVv x
            have hM4 := hM3.below hB4
            have hMo4 := hMo.below hB4
            have hA4 := hA3.below hB4
            have hO4 : (wr.setCell ⟨w3.heap.size, c, none⟩ (.float .f64 x)).rowIs wc.heap.size 24 k (fun j => .float .f64 (O j)) := hO3.of_block (hB4.block _ hO3.lt)
            have hB4' : Below w.heap.size w (wr.setCell ⟨w3.heap.size, c, none⟩ (.float .f64 x)) := hB3.trans (hB4.mono hB3.size)
            clear hM3 hMo hA3 hO3 hB4 hB3 hV3
            go_wp2_with fail
            generalize wr.setCell ⟨w3.heap.size, c, none⟩ (.float .f64 x) = w4 at *
            clear hVv r1 r2
            refine (zzMultiply_any _ _ B2 0 k k w3.heap.size 0 (c + 1) (c + 1) _ _ _ _ _ (z2 n L Z A) (v2 c V x) w4 hlm (fun r hr => ⟨?_, ?_⟩) hM4 hV4).mono ?_
            · have := hL r hr
              show (if r < n then L r + 1 else L r) ≤ 2097152
              split <;> omega
            · have := hfit r hr
              show (if r < n then L r + 1 else L r) ≤ c + 1
              split <;> omega
            rintro e w5 ⟨rfl, O2, hO2⟩
            have hB5 : Below w.heap.size w w5 := hB4'.trans (hO2.below.mono hB4'.size)
            have hM5 := hMo4.below hO2.below
            have hA5 := hA4.below hO2.below
            have hV5 := hV4.below hO2.below
            have hO5 : w5.rowIs wc.heap.size 24 k (fun j => .float .f64 (O j)) := hO4.of_block (hO2.below.block _ hO4.lt)
            have hP5 := hO2.row
            have HO2 : Hid (∀ j, j < k → cls (O2 j) = dotC (z2 n L Z A j) (v2 c V x) (if j < n then L j + 1 else L j)) := hO2.val
            clear hO2 hMo4 hA4 hV4 hO4 hB4' hM4
            generalize w4.heap.size = B4 at *
            go_wp2
            have hadd := @run_add Try.prog
            have hmul := @run_mul Try.prog
            go_loopw [20] (fun j wi => ∃ i nn : Nat, i ≤ k ∧ j = .int .i64 i ∧ wi = w5.drewN nn) (fun j _ => k - (intOf j).toNat)
            case atStart => exact ⟨0, 0, Nat.zero_le _, rfl, rfl⟩
            case round =>
              obtain ⟨i, nn, hi, rfl, rfl⟩ := hrel
              by_cases hik : i < k
              · obtain rfl := hM5.top (by omega)
                have c0 := hM5.row i hik
                have c1 := hO5.cell hik
                have c4 := hP5.cell hik
                have hl := hfit i hik
                have c3 := hV5.cell (L i) (by omega)
                rw [Nat.zero_add] at c3
                have hlc : L i < c + 1 := by omega
                have key : (((L i : Int) == 0) = true ∧ (FloatKind.f64.format.order (O i) 0 != some .eq) = false) ∨ ((L i : Int) == 0) = false := by
                  by_cases h0 : L i = 0
                  · have e1 := HO.out i hik
                    rw [h0] at e1
                    have e2 : cls (O i) = some 0 := e1.trans cls_zero
                    rcases cls_cases (O i) with e3 | e3
                    · rw [e3] at e2; cases e2
                    · rw [e3] at e2
                      have e4 : O i = 0 := Option.some.inj e2
                      exact .inl ⟨by rw [h0]; rfl, by rw [e4, order_self 0 cls_zero]; rfl⟩
                  · exact .inr (beq_eq_false_iff_ne.2 (by omega))
                rcases key with ⟨k1, k2⟩ | k1
                all_goals
                  by_cases hin : i < n
                  · obtain rfl := hA5.top (by omega)
                    have c2 := hA5.cell i (by omega)
                    have hil : i < la := by omega
                    clear hM5 hA5 hV5 hO5 hP5
                    go_wp2_with fail
                    go_region
                    go_wp2_with fail
                    refine (sameFloat_any _ _ _ ?_).mono ?_
                    · rw [cls_addV, cls_mulV, HO.out i hik, HO2.out i hik, if_pos hin, law_in n c i L Z A V x hin hl]
                    rintro e w6 ⟨rfl, rfl⟩
                    go_wp2
                    go_roundw
                    case rel => exact ⟨i + 1, _, by omega, by go_num, rfl⟩
                    case measure => simp [intOf]; omega
                  · clear hM5 hA5 hV5 hO5 hP5
                    go_wp2_with fail
                    refine (sameFloat_any _ _ _ ?_).mono ?_
                    · rw [HO.out i hik, HO2.out i hik, if_neg hin, law_out n c i L Z A V x hin hl]
                    rintro e w6 ⟨rfl, rfl⟩
                    go_wp2
                    go_roundw
                    case rel => exact ⟨i + 1, _, by omega, by go_num, rfl⟩
                    case measure => simp [intOf]; omega
              · go_wp2
                go_ret
                exact ⟨rfl, below_drewN hB5 nn⟩
end Go.Proofs.Qxb6617596a
