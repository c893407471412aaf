/- THE PROOF OF 'Rows.FnDigitsAfterOneBytePutInSaid': the guide's frame, the walk filled in; the world by 'Below' (the law makes and fills a slice of its own). -/
import Derived.Test.Qxb6617620aRows
import Derived.Test.Qxb6617620aPut
import Derived.Below
import Derived.Deep.Cut
import Derived.Deep.CutRange
import Derived.WalkKit
import Derived.ProofKit
import Derived.OpenShut
import Derived.ShutString
namespace Go.Proofs.Qxb6617620a.fnDigitsAfterOneBytePutIn
open Go.ChangeShapes Go.WideShapes Go.ChangeAt Go.RowKit
open Go.ChangeMaps (open_string shut_string)
set_option linter.unusedVariables false      -- a walk need not use every 'w<i>' (that an integer argument fits its kind)

theorem own : ownKnob Try.prog.godebug = none := by kernel_rfl

/-! ### STEP 1: THE WALK: the Go text returns true. 'Grown w w'': the world has at most new blocks (Derived/RowKit3.lean). Part the cases AHEAD of 'go_enter' where a test parts the walk; take each callee by a contract of your own. -/
theorem Try.info5 : (Try.prog.info? 5).map (fun i => (i.zero, i.size, i.bytes)) = some (some (.int .u8 0), 1, 1) := by kernel_rfl

/-- The bytes laid so far: k of them (m more than the counter says). -/
def Built (w wr : World) (s : ByteArray) (p : Nat) (c : UInt8) (top : Nat) (tb : Value) (v : Value) (m : Nat) : Prop :=
  ∃ k : Nat, k ≤ top ∧ v = .int .i64 k ∧ tb = .slice (some ⟨w.heap.size, 0, none⟩) (k + m) (s.size + 1) ∧
    wr.ownsRow w.heap.size 5 1 (.slice (some ⟨w.heap.size, 0, none⟩) (k + m) (s.size + 1)) (k + m) (bytesV ((T s p c).take (k + m))) ∧ Below w.heap.size w wr

theorem one_cell (w : World) (v : Value) (t : TypeId) : ∀ j u, [v][j]? = some u → (w.alloc (.cells #[v] t)).cell? ((⟨w.heap.size, 0, none⟩ : Addr).add j) = some u := by
  intro j u hj
  match j, hj with
  | 0, hj => simp at hj; subst hj; simp [Addr.add]
theorem one_cell' (n : Int) : ∀ u ∈ [Value.int .u8 n], u.oneCell' = true := by
  intro u hu; simp at hu; subst hu; rfl

theorem built_step {w wr w2 : World} {s : ByteArray} {p n : Nat} {c u : UInt8} {o : Obj} (hb : Below w.heap.size w wr) (hw : wr.ownsRow w.heap.size 5 1 (.slice (some ⟨w.heap.size, 0, none⟩) n (s.size + 1)) n (bytesV ((T s p c).take n)))
    (hu : (T s p c)[n]? = some u) (h2 : w2.ownsRow w.heap.size 5 1 (.slice (some ⟨w.heap.size, 0, none⟩) (n + 1) (s.size + 1)) (n + 1) (bytesV ((T s p c).take n) ++ [.int .u8 (u.toNat : Int)])) (hg : (wr.alloc o).grownBy w2 (some w.heap.size)) :
    w2.ownsRow w.heap.size 5 1 (.slice (some ⟨w.heap.size, 0, none⟩) (n + 1) (s.size + 1)) (n + 1) (bytesV ((T s p c).take (n + 1))) ∧ Below w.heap.size w w2 := by
  have hlt := hw.lt w.heap.size rfl
  refine ⟨by rw [bytesV_snoc hu]; exact h2, (hb.alloc (by omega) o).grown hg (by simp; omega) (fun k e => by have := Option.some.inj e; omega)⟩

set_option maxHeartbeats 1600000 in
set_option maxRecDepth 100000 in
theorem walk (a0 : ByteArray) (a1 : Int) (a2 : Int) (a3 : Int) (w0 : a0.size ≤ maxLen) (w1 : (Lit.int .i64 a1).wf = true) (w2 : (Lit.int .u8 a2).wf = true) (w3 : (Lit.int .i64 a3).wf = true) (w : World) :
    Calls Try.prog 4 #[.string a0, .int .i64 a1, .int .u8 a2, .int .i64 a3] w fun e w' => e = .returned (.bool true) ∧ Below w.heap.size w w' := by
  have hbd := bounds_i64 w3
  have hb2 := bounds_u8 w2
  clear w1 w2 w3
  obtain ⟨c, rfl⟩ : ∃ c : UInt8, a2 = (c.toNat : Int) := ⟨UInt8.ofNat a2.toNat, by simp; omega⟩
  go_enter Try.func4, Try.ntmps4
  go_wp2_with fail
  refine (zzBytes2_any a0 a1 _ a3 _ w0).mono ?_
  rintro e w' ⟨b, rfl, rfl⟩
  cases b
  · go_wp2
    go_ret
    exact ⟨rfl, Below.refl _ _⟩
  by_cases h1 : a0.size ≤ 524288
  rotate_left
  · unfold maxLen at *
    go_wp2
    go_ret
    exact ⟨rfl, Below.refl _ _⟩
  by_cases h2 : 0 ≤ a1
  rotate_left
  · go_wp2
    go_ret
    exact ⟨rfl, Below.refl _ _⟩
  obtain ⟨p, rfl⟩ := Int.eq_ofNat_of_zero_le h2
  clear h2
  by_cases h3 : p ≤ a0.size
  rotate_left
  · go_wp2
    go_ret
    exact ⟨rfl, Below.refl _ _⟩
  by_cases h4 : 0 ≤ a3
  rotate_left
  · go_wp2
    go_ret
    exact ⟨rfl, Below.refl _ _⟩
  obtain ⟨i, rfl⟩ := Int.eq_ofNat_of_zero_le h4
  clear h4 w0
  obtain ⟨i0, hi, hz0, hz1, hz2⟩ := info_parts Try.info5
  have hd1 : decide ((p : Int) < 0) = false := decide_eq_false (by omega)
  have hd2 : decide ((i : Int) < 0) = false := decide_eq_false (by omega)
  have hd3 : decide ((524288 : Int) < (a0.size : Int)) = false := decide_eq_false (by omega)
  go_wp2_with (at_make; refine wpList_make_own _ rfl _ _ 26 rfl w.heap.size 5 i0 (.int .u8 0) 1 Try.underlying26 hi hz0 hz1 _ _ _ (a0.size + 1) rfl rfl (by omega) (by rw [hz2]; omega) (by unfold maxLen; omega) (Nat.le_refl _) ?_; intro w1 hown hgrow)
  have hb1 : Below w.heap.size w w1 := (Below.refl _ _).grown hgrow (Nat.le_refl _) (fun k h => by cases h)
  have hT := T_length a0 p c h3
  have HT : Hid ((T a0 p c).length = a0.size + 1) := hT
  clear hgrow hT
  go_loopw [9, 10] (fun tb k wr => Built w wr a0 p c p tb k 0) (fun _ k _ => p - (intOf k).toNat)
  case atStart => exact ⟨0, Nat.zero_le _, rfl, rfl, hown, hb1⟩
  case round =>
    obtain ⟨k, hk, rfl, rfl, hw, hb⟩ := hrel
    clear hown hb1
    by_cases hlt : k < p
    · have hks : k < a0.size := by omega
      have HU : Hid ((T a0 p c)[k]? = some a0[k]) := T_before a0 p c k h3 hlt
      go_wp2_with (at_builtin; refine wpList_append_fits _ rfl (.tmp 44) (.tmp 48) 26 rfl w.heap.size 5 i0 1 Try.underlying26 hi hz1 w.heap.size (k + 0) (a0.size + 1) _ rfl (by exact hw.alloc _) ⟨wr.heap.size, 0, none⟩ 1 1 [.int .u8 (a0[k].toNat : Int)] rfl rfl (one_cell _ _ _) (one_cell' _) (by omega) ?_; intro w2 hown2 hgrow2)
      have hx := built_step hb hw HU.out hown2 hgrow2
      clear hown2 hgrow2 hb hw
      go_wp2
      go_roundw
      case rel => exact ⟨k + 1, by omega, by go_num, rfl, hx.1, hx.2⟩
      case measure => simp [intOf]; omega
    · obtain rfl : k = p := by omega
      have HU : Hid ((T a0 k c)[k]? = some c) := T_at a0 k c h3
      go_wp2_with (at_builtin; refine wpList_append_fits _ rfl (.tmp 50) (.tmp 52) 26 rfl w.heap.size 5 i0 1 Try.underlying26 hi hz1 w.heap.size (k + 0) (a0.size + 1) _ rfl (by exact hw.alloc _) ⟨wr.heap.size, 0, none⟩ 1 1 [.int .u8 (c.toNat : Int)] rfl rfl (one_cell _ _ _) (one_cell' _) (by omega) ?_; intro w2 hown2 hgrow2)
      have hx := built_step hb hw HU.out hown2 hgrow2
      clear hown2 hgrow2 hb hw HU hlt hk
      go_loopw [9, 11] (fun tb j wr => Built w wr a0 k c a0.size tb j 1 ∧ Hid (k ≤ (intOf j).toNat)) (fun _ j _ => a0.size - (intOf j).toNat)
      case atStart => exact ⟨⟨k, h3, rfl, rfl, hx.1, hx.2⟩, by show k ≤ _; simp [intOf]⟩
      case round =>
        obtain ⟨⟨j, hj, rfl, rfl, hw, hb⟩, hkj0⟩ := hrel
        have hkj : k ≤ j := by have := hkj0.out; simpa [intOf] using this
        clear hx hkj0
        by_cases hlt : j < a0.size
        · have HU : Hid ((T a0 k c)[j + 1]? = some a0[j]) := T_behind a0 k c j hkj hlt
          go_wp2_with (at_builtin; refine wpList_append_fits _ rfl (.tmp 61) (.tmp 65) 26 rfl w.heap.size 5 i0 1 Try.underlying26 hi hz1 w.heap.size (j + 1) (a0.size + 1) _ rfl (by exact hw.alloc _) ⟨wr.heap.size, 0, none⟩ 1 1 [.int .u8 (a0[j].toNat : Int)] rfl rfl (one_cell _ _ _) (one_cell' _) (by omega) ?_; intro w2 hown2 hgrow2)
          have hx := built_step hb hw HU.out hown2 hgrow2
          clear hown2 hgrow2 hb hw
          go_wp2
          go_roundw
          case rel => exact ⟨⟨j + 1, by omega, by go_num, rfl, hx.1, hx.2⟩, by show k ≤ _; simp [intOf]; omega⟩
          case measure => simp [intOf]; omega
        · obtain rfl : j = a0.size := by omega
          have hconv : (convert 26 9 (.slice (some ⟨w.heap.size, 0, none⟩) (a0.size + 1) (a0.size + 1))).run Try.prog wr = .ok (.string (tS a0 k c)) wr := by
            have h0 := HT.out
            have h5 : (T a0 k c).take (a0.size + 1) = T a0 k c := List.take_of_length_le (by omega)
            rw [h5] at hw
            have := conv_run (P := Try.prog) wr w.heap.size w.heap.size (a0.size + 1) (T a0 k c) Try.underlying26 Try.underlying5 Try.underlying9 (by rw [h0]; exact hw)
            rwa [h0] at this
          have hsz : (tS a0 k c).size ≤ 2097152 := by rw [tS_size a0 k c h3]; omega
          clear hw hlt hkj hj
          go_wp2_with fail
          clear hconv
          refine (zzDigits_any (tS a0 k c) i _ hsz).mono ?_
          rintro e w' ⟨r, rfl, hr, rfl⟩
          have HR : Hid (Run (dg (tS a0 k c)) (tS a0 k c).size i r) := hr
          clear hr
          have KEY : Hid (_) := put_law h3 HR.out
          by_cases hik : i ≤ k
          · go_wp2_with fail
            refine (zzDigits_any a0 i _ (by omega)).mono ?_
            rintro e w' ⟨rs, rfl, hrs, rfl⟩
            by_cases hlt : rs < k
            · have er := KEY.out.1 rs hrs hlt
              subst er
              clear KEY hrs
              have hbq : ((r : Int) == (r : Int)) = true := beq_self_eq_true _
              go_wp2_with fail
              refine (isRun_any _ _ _ _ hsz HR.out).mono ?_
              rintro e w' ⟨rfl, rfl⟩
              go_wp2
              go_ret
              exact ⟨rfl, hb⟩
            · have HRS : Hid (Run (dg a0) a0.size i rs) := hrs
              have hrl := hrs.le (by omega)
              clear hrs
              by_cases hdc : (48 : Int) ≤ (c.toNat : Int) ∧ (c.toNat : Int) ≤ 57
              · have er := KEY.out.2.1 rs hik HRS.out hlt (by unfold isDg; simp [hdc.1, hdc.2])
                subst er
                have HDC : Hid ((48 : Int) ≤ (c.toNat : Int) ∧ (c.toNat : Int) ≤ 57) := hdc
                clear KEY HRS hdc
                have hbq : (((rs + 1 : Nat) : Int) == ((rs : Int) + 1)) = true := beq_self_eq_true _
                go_wp2_with fail
                refine (isDigit_yes _ _ HDC.out.1 HDC.out.2).mono ?_
                rintro e w' ⟨rfl, rfl⟩
                go_wp2_with fail
                refine (isRun_any _ _ _ _ hsz HR.out).mono ?_
                rintro e w' ⟨rfl, rfl⟩
                go_wp2
                go_ret
                exact ⟨rfl, hb⟩
              · have er := KEY.out.2.2.1 rs hik HRS.out hlt (by unfold isDg; by_cases h : (48 : Int) ≤ (c.toNat : Int) <;> simp [h]; omega)
                subst er
                have HDC : Hid (¬ ((48 : Int) ≤ (c.toNat : Int) ∧ (c.toNat : Int) ≤ 57)) := hdc
                clear KEY HRS hdc
                have hbq : ((r : Int) == (r : Int)) = true := beq_self_eq_true _
                go_wp2_with fail
                refine (isDigit_no _ _ HDC.out).mono ?_
                rintro e w' ⟨rfl, rfl⟩
                go_wp2_with fail
                refine (isRun_any _ _ _ _ hsz HR.out).mono ?_
                rintro e w' ⟨rfl, rfl⟩
                go_wp2
                go_ret
                exact ⟨rfl, hb⟩
          · go_wp2_with fail
            refine (zzDigits_int a0 _ _ (by omega) (by omega)).mono ?_
            rintro e w' ⟨rs, rfl, hrs, rfl⟩
            rw [show ((i : Int) - 1).toNat = i - 1 by omega] at hrs
            have er := KEY.out.2.2.2 rs hik hrs
            have hrl : rs + 1 ≤ 9223372036854775807 := by
              rcases hrs with ⟨a, b⟩ | ⟨a, b, c, d⟩ <;> omega
            subst er
            clear KEY hrs
            have hbq : (((rs + 1 : Nat) : Int) == ((rs : Int) + 1)) = true := beq_self_eq_true _
            go_wp2_with fail
            refine (isRun_any _ _ _ _ hsz HR.out).mono ?_
            rintro e w' ⟨rfl, rfl⟩
            go_wp2
            go_ret
            exact ⟨rfl, hb⟩

/-! ### THE ROW's STEP: WRITTEN OUT: LEAVE IT -/
set_option maxRecDepth 100000 in
theorem lifted (os : Os) (started : os.Started) (H : Type) (enc : TypeId × Value → H) :
    ReturnsInHanded {} Try.checked os 4 .any (Rows.fnDigitsAfterOneBytePutInSpec.pre6 enc Try.prog Try.f4 Rows.fnDigitsAfterOneBytePutInRow.domain false) (Rows.fnDigitsAfterOneBytePutInSpec.post enc Try.prog Try.f4 false true false false) := by
  refine returnsInHanded_of_change (C := Try.checked) own started (by kernel_rfl) Try.func4
    (ChangeSpec.witness6 (enc := enc) (C := Try.checked) false ⟨#[], #[.string ByteArray.empty, .int .i64 0, .int .u8 0, .int .i64 0], []⟩ 8 (by kernel_rfl) (by kernel_rfl) (by kernel_rfl) (by kernel_rfl)) ?_
  intro W base args ds gs before hval0 hW hcnd _
  have hval : ∀ (j : Nat) t v, Try.f4.params[j]? = some t → args[j]? = some v → Value.okWide Try.prog W .any base t v := hval0
  have hW' := hW
  obtain ⟨p, q, hA0, hV, rfl, hfz, hnd⟩ := hW
  have hA : DataW.TrodAll enc Try.prog W 0 (fun _ => true) true Try.f4.params.toList args.toList ds p := hA0
  rw [Try.params4] at hA hval
  obtain ⟨v0, vs0, d0, ds0, p0, q0, hargs, rfl, rfl, h0, r0⟩ := trodAll_cons hA
  obtain ⟨v1, vs1, d1, ds1, p1, q1, rfl, rfl, rfl, h1, r1⟩ := trodAll_cons r0
  obtain ⟨v2, vs2, d2, ds2, p2, q2, rfl, rfl, rfl, h2, r2⟩ := trodAll_cons r1
  obtain ⟨v3, vs3, d3, ds3, p3, q3, rfl, rfl, rfl, h3, r3⟩ := trodAll_cons r2
  obtain ⟨rfl, rfl, rfl⟩ := trodAll_nil r3
  obtain rfl : args = #[v0, v1, v2, v3] := by cases args; simp_all
  obtain ⟨rfl, rfl⟩ := trodVars_none hV
  obtain ⟨a0, rfl, rfl, rfl, w0⟩ := open_string Try.underlying9 (hval 0 9 v0 rfl rfl) h0
  obtain ⟨a1, rfl, rfl, rfl, w1⟩ := open_int Try.underlying3 (hval 1 3 v1 rfl rfl) h1
  obtain ⟨a2, rfl, rfl, rfl, w2⟩ := open_int Try.underlying5 (hval 2 5 v2 rfl rfl) h2
  obtain ⟨a3, rfl, rfl, rfl, w3⟩ := open_int Try.underlying3 (hval 3 3 v3 rfl rfl) h3
  clear hA0 hval0
  simp only [List.append_nil] at hW'
  refine (walk a0 a1 a2 a3 w0 w1 w2 w3 W).mono fun e W' ⟨he, hg⟩ => ?_
  subst he
  exact ⟨_, rfl, _, _, _, [], _, [], hW', trodAll_mk1 (shut_bool Try.underlying4 _), (trodAll_cons_mk (shut_string Try.underlying9 w0) (trodAll_cons_mk (shut_int Try.underlying3 w1) (trodAll_cons_mk (shut_int Try.underlying5 w2) (trodAll_cons_mk (shut_int Try.underlying3 w3) trodAll_mk0)))), rfl, hg.frame _, fun h => by cases h⟩

theorem over : Rows.fnDigitsAfterOneBytePutInRow.holds Try.pinned (OpenSpec.ofChange Rows.fnDigitsAfterOneBytePutInSpec) :=
  OpenClaim.holds_of_wide 4 Try.f4 rfl rfl rfl rfl rfl rfl rfl ⟨rfl, rfl, rfl, rfl, rfl⟩ rfl rfl rfl rfl rfl (by kernel_rfl) Try.func4 (by kernel_rfl)
    (of_decide_eq_true (by kernel_rfl)) (by unfold Func.isWrapper; first | (rw [if_pos (by decide +kernel)]; kernel_rfl) | (rw [if_neg (by decide +kernel)]; exact ⟨rfl, rfl⟩))
    (fun os started H enc _ => lifted os started H enc)

/-- ████ THE STATEMENT ████ -/
theorem proved : Rows.FnDigitsAfterOneBytePutInSaid :=
  over
end Go.Proofs.Qxb6617620a.fnDigitsAfterOneBytePutIn
