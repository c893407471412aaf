/- THE WALK OF THE LAW. -/
import Derived.Test.Qxb6615153aUpd
import Derived.Deep.Cut
import Derived.Deep.CutRange
import Derived.Laws.BitsLemmas
import Derived.LaidEql
namespace Go.Proofs.Qxb6615153a.Nk
open Go.RowKit
set_option linter.unusedVariables false

theorem Try.und48 : Try.prog.underlying 48 = some (.pointer (Try.prog.pointee 48)) := by kernel_rfl
theorem Try.pte48 : (Try.prog.info? (Try.prog.pointee 48)).isSome = true := by kernel_rfl

theorem eqlIn48 (d : Nat) (a : Addr) (w : World) : (Op.equalIn (d + 1) 48 (.pointer (some a)) (.pointer (some a))).run Try.prog w = .ok true w := by
  obtain ⟨j, hj⟩ := Option.isSome_iff_exists.1 Try.pte48
  simp [Op.equalIn, run_underlying Try.und48, sizeOf, typeInfo, hj, run_sameAddr_same]

theorem neq48 (a : Addr) (w : World) : (binOp .neq 48 (.pointer (some a)) (.pointer (some a))).run Try.prog w = .ok (.bool false) w := by
  simp only [binOp]
  simp [Op.equal, Op.maxDepth, eqlIn48 9999 a w]

/-- It answers true; what was there is there. -/
def Yes (e : Ending) (w w' : World) : Prop := e = .returned (.bool true) ∧ Below w.heap.size w w'

theorem walk_start {w2 w3 w4 : World} {m : Option Addr} {mb mo nb lb rb N : Nat} {R : Nat → Option Addr} {Ln C RB RO VB : Nat → Nat} {M : Nat → Nat → Int} {nd its : Nat → Nat} {it : Nat → Nat → Nat} (h2 : Lv w2 m mb mo N R Ln C RB RO M)
    (hB : Built w3 nb lb rb N (N - 1) Ln M nd its it (fun _ s => (s : Int))) (hb3 : Below w2.heap.size w2 w3) (hlo : ∀ j, j < N → ∀ s, s < Ln j → w2.heap.size ≤ it j s) (hb4 : Below w3.heap.size w3 w4) (hV : Vis w4 w3.heap.size N N Ln VB (fun _ _ => false)) :
    Walk w2 w4 m mb mo nb lb rb w3.heap.size N R Ln C RB RO VB M nd its it (fun _ s => (s : Int)) (fun _ _ => false) 0 :=
  ⟨hB.below hb4, hV, fun L hL i hi => by simp, fun L hL i hi => by simp, fun L hL => ⟨hlo L hL, by have := hV.lo L hL; have := hb3.size; omega⟩, hb3.trans (hb4.mono hb3.size), h2⟩

theorem i64_and255 (n : Int) : bits .and .i64 n 255 = n % 256 := by
  have h255 : (BitVec.ofInt 64 255).toNat = 2 ^ 8 - 1 := by decide
  have key : (BitVec.ofInt 64 n &&& BitVec.ofInt 64 255).toNat = (n % ((2 ^ 64 : Nat) : Int)).toNat % 2 ^ 8 := by
    rw [BitVec.toNat_and, BitVec.toNat_ofInt, h255, Nat.and_two_pow_sub_one_eq_mod]
  show IntKind.i64.wrap ((BitVec.ofInt 64 n &&& BitVec.ofInt 64 255).toNat : Nat) = n % 256
  rw [key, IntKind.wrap_i64]
  omega

theorem at_le {N : Nat} {Ln : Nat → Nat} {M : Nat → Nat → Int} {sl : Nat → Nat → Nat} {L i : Nat} (hF : Fit N Ln M sl) (h : At N Ln L i) : L * 256 + i ≤ N * 256 := by
  rcases h with ⟨h1, h2⟩ | ⟨rfl, rfl⟩
  · have := (hF.n L h1).2; omega
  · omega

set_option maxHeartbeats 6400000 in
set_option maxRecDepth 100000 in
theorem law_any {m : Option Addr} {mb mo N cap : Nat} {R : Nat → Option Addr} {Ln C RB RO : Nat → Nat} {M : Nat → Nat → Int} {w : World} (h : Lv w m mb mo N R Ln C RB RO M) :
    Calls Try.prog 7 #[.slice m N cap] w fun e w' => Yes e w w' := by
  go_enter Try.func7, Try.ntmps7
  go_wp2_with fail
  refine (zzBytes_any h).mono ?_
  rintro e w' ⟨b, rfl, rfl, -⟩
  cases b with
  | false =>
    go_wp2
    go_ret
    exact ⟨rfl, Below.refl _ _⟩
  | true =>
    go_wp2_with fail
    refine (tooBig_any h).mono ?_
    rintro e w' ⟨b, rfl, rfl, hN⟩
    cases b with
    | true =>
      go_wp2
      go_ret
      exact ⟨rfl, Below.refl _ _⟩
    | false =>
      have hN' := hN rfl
      clear hN
      go_wp2_with fail
      refine (fit_any h hN').mono ?_
      rintro e w1 ⟨b, rfl, hb1, hF⟩
      cases b with
      | false =>
        go_wp2
        go_ret
        exact ⟨rfl, hb1⟩
      | true =>
        have HF := hF rfl
        clear hF
        have h1 := h.below hb1
        go_wp2_with fail
        refine (newRun_any w1).mono ?_
        rintro e w2 ⟨rfl, hb2, -⟩
        have h2 := h1.below hb2
        have HB2 : Hid (Below w.heap.size w w2) := hb1.trans (hb2.mono hb1.size)
        clear hb1 h1
        go_wp2_with fail
        refine (buildLeaves_any m mb mo N cap w1.heap.size R Ln C RB RO M w2 h2 hN' HF.n).mono ?_
        rintro e w3 ⟨rfl, hb3, nd, its, it, hB, hlo⟩
        have h3 := h2.below hb3
        go_wp2_with fail
        refine (newVisited_any h3 hN' (fun j hj => (HF.n j hj).2)).mono ?_
        rintro e w4 ⟨rfl, hb4, VB, hV⟩
        have HW : Hid (Walk w2 w4 m mb mo w2.heap.size (w2.heap.size + 1) w1.heap.size w3.heap.size N R Ln C RB RO VB M nd its it (fun _ s => (s : Int)) (fun _ _ => false) 0) := walk_start h2 hB hb3 hlo hb4 hV
        have h4 := h3.below hb4
        clear h h2 h3 hB hV hb3 hb4 hlo hb2
        obtain ⟨rb, hrb⟩ : ∃ rb, w1.heap.size = rb := ⟨_, rfl⟩
        obtain ⟨nb, hnb⟩ : ∃ nb, w2.heap.size = nb := ⟨_, rfl⟩
        obtain ⟨vb, hvb⟩ : ∃ vb, w3.heap.size = vb := ⟨_, rfl⟩
        rw [hrb, hnb, hvb] at HW
        rw [hrb, hnb, hvb]
        clear hrb hnb hvb w3 w1
        go_wp2
        go_loopw [7, 8, 9] (fun v7 v8 v9 wr => ∃ k : Nat, k ≤ N ∧ v7 = .int .i64 (cnt (kB N Ln M) (k * 256) : Nat) ∧ v8 = .int .i64 (cnt (vB N Ln) (k * 256) : Nat) ∧ v9 = .int .i64 k ∧ w4 = wr) (fun _ _ v9 _ => N - (intOf v9).toNat)
        case atStart => exact ⟨0, Nat.zero_le _, rfl, rfl, rfl, rfl⟩
        case round =>
          obtain ⟨k, hk, rfl, rfl, rfl, rfl⟩ := hrel
          by_cases hlt : k < N
          · obtain ⟨hn0, hn1⟩ := HF.n k hlt
            obtain rfl := h4.top (by omega)
            have c0 := h4.row k hlt
            rw [h4.rtop k hlt hn0] at c0
            have hc := h4.cell k hlt
            have hr := h4.rng k hlt
            go_wp2
            go_loopw [7, 8, 10] (fun v7 v8 v10 wr => ∃ i : Nat, i ≤ Ln k ∧ v7 = .int .i64 (cnt (kB N Ln M) (k * 256 + i) : Nat) ∧ v8 = .int .i64 (cnt (vB N Ln) (k * 256 + i) : Nat) ∧ v10 = .int .i64 i ∧ w4 = wr) (fun _ _ v10 _ => Ln k - (intOf v10).toNat)
            case atStart => exact ⟨0, Nat.zero_le _, rfl, rfl, rfl, by first | rfl | trivial⟩
            case round =>
              obtain ⟨i, hi, rfl, rfl, rfl, rfl⟩ := hrel
              have hb1 := cnt_le (kB N Ln M) (k * 256 + i)
              have hb2 := cnt_le (vB N Ln) (k * 256 + i)
              by_cases hil : i < Ln k
              · have c1 := hc i hil
                have r1 := hr i hil
                have hv : vB N Ln (k * 256 + i) = true := (vB_iff (by omega)).2 ⟨hlt, hil⟩
                have E2 : Hid (cnt (vB N Ln) (k * 256 + i + 1) = cnt (vB N Ln) (k * 256 + i) + 1) := cnt_hit hv
                have hbits := u32_and1 (M k i) r1
                by_cases hodd : M k i % 2 = 1
                · rw [hodd] at hbits
                  have E1 : Hid (cnt (kB N Ln M) (k * 256 + i + 1) = cnt (kB N Ln M) (k * 256 + i) + 1) := cnt_hit ((kB_iff (by omega)).2 ⟨hlt, hil, hodd⟩)
                  clear hv hodd
                  go_wp2
                  go_roundw
                  case rel => exact ⟨i + 1, by omega, by rw [← Nat.add_assoc, E1.out]; go_num, by rw [← Nat.add_assoc, E2.out]; go_num, by go_num, by first | rfl | trivial⟩
                  case measure => simp [intOf]; omega
                · have hev : M k i % 2 = 0 := by omega
                  rw [hev] at hbits
                  have E1 : Hid (cnt (kB N Ln M) (k * 256 + i + 1) = cnt (kB N Ln M) (k * 256 + i)) := cnt_miss (by
                    cases e : kB N Ln M (k * 256 + i) with
                    | false => rfl
                    | true => exact absurd ((kB_iff (by omega)).1 e).2.2 hodd)
                  clear hv hodd hev
                  go_wp2
                  go_roundw
                  case rel => exact ⟨i + 1, by omega, by rw [← Nat.add_assoc, E1.out], by rw [← Nat.add_assoc, E2.out]; go_num, by go_num, by first | rfl | trivial⟩
                  case measure => simp [intOf]; omega
              · obtain rfl : i = Ln k := by omega
                have E2 : Hid (cnt (vB N Ln) ((k + 1) * 256) = cnt (vB N Ln) (k * 256 + Ln k)) := cnt_gap _ (by omega) (fun x h1 h2 => vB_gap HF hlt h1 h2)
                have E1 : Hid (cnt (kB N Ln M) ((k + 1) * 256) = cnt (kB N Ln M) (k * 256 + Ln k)) := cnt_gap _ (by omega) (fun x h1 h2 => by
                  have := vB_gap HF hlt h1 h2
                  unfold kB
                  rw [this]; rfl)
                go_wp2
                go_roundw
                case rel => exact ⟨k + 1, by omega, by rw [E1.out], by rw [E2.out], by go_num, by first | rfl | trivial⟩
                case measure => simp [intOf]; omega
          · obtain rfl : k = N := by omega
            have hbk := cnt_le (kB k Ln M) (k * 256)
            have hbv := cnt_le (vB k Ln) (k * 256)
            have HSUB : Hid (cnt (kB k Ln M) (k * 256) ≤ cnt (vB k Ln) (k * 256)) := cnt_sub kB_sub _
            clear hlt hk
            obtain ⟨KN, hKN⟩ : ∃ KN, cnt (kB k Ln M) (k * 256) = KN := ⟨_, rfl⟩
            obtain ⟨TT, hTT⟩ : ∃ TT, cnt (vB k Ln) (k * 256) = TT := ⟨_, rfl⟩
            rw [hKN] at hbk HSUB
            rw [hTT] at hbv HSUB
            rw [hKN, hTT]
            have hsub : KN ≤ TT := HSUB.out
            have HKN : Hid (cnt (kB k Ln M) (k * 256) = KN) := hKN
            clear hKN hTT HSUB
            go_wp2
            go_loopw [11, 12, 13, 14] (fun v11 v12 v13 v14 wr => ∃ (L i : Nat) (hint : Nat → Nat → Int) (V : Nat → Nat → Bool), At k Ln L i ∧ v11 = .int .i64 L ∧ v12 = .int .i64 i ∧ v13 = .int .i64 (cnt (kB k Ln M) (L * 256 + i) : Nat) ∧ v14 = .int .i64 (cnt (kB k Ln M) (L * 256 + i) : Nat) ∧ Walk w2 wr m mb mo nb (nb + 1) rb vb k R Ln C RB RO VB M nd its it hint V (L * 256 + i)) (fun _ _ _ v14 _ => TT + 1 - (intOf v14).toNat)
            case atStart =>
              have hz : cnt (kB k Ln M) (0 * 256 + 0) = 0 := rfl
              refine ⟨0, 0, _, _, ?_, rfl, rfl, rfl, rfl, HW.out⟩
              by_cases hk0 : 0 < k
              · exact .inl ⟨hk0, (HF.n 0 hk0).1⟩
              · exact .inr ⟨by omega, rfl⟩
            case round =>
              obtain ⟨L, i, hint, V, hat, rfl, rfl, rfl, rfl, hW⟩ := hrel
              clear HW h4
              have hLk : L ≤ k := by rcases hat with ⟨a, _⟩ | ⟨a, _⟩ <;> omega
              have hcode : L * 256 + i ≤ k * 256 := at_le HF hat
              have hcn : cnt (kB k Ln M) (L * 256 + i) ≤ KN := by rw [← HKN.out]; exact cnt_mono _ hcode
              have H4 : Hid (Walk w2 wr m mb mo nb (nb + 1) rb vb k R Ln C RB RO VB M nd its it hint V (L * 256 + i)) := hW
              have hlen : cnt (kB k Ln M) (L * 256 + i) ≤ TT := by omega
              have HAT : Hid (At k Ln L i) := hat
              clear hW hat
              obtain ⟨c, hc⟩ : ∃ c, cnt (kB k Ln M) (L * 256 + i) = c := ⟨_, rfl⟩
              rw [hc] at hcn hlen
              rw [hc]
              have HC : Hid (cnt (kB k Ln M) (L * 256 + i) = c) := hc
              clear hc
              have hlen' : (c : Int) ≤ (TT : Int) := by omega
              go_wp2_with fail
              refine (leafAt_any nb k L nd wr H4.out.built.nodes hLk hN').mono ?_
              rintro e w' ⟨rfl, rfl⟩
              go_wp2_with fail
              refine (zzNextKnown_any nb (nb + 1) rb k Ln M (slotOf M) nd its it hint wr L i H4.out.built HF hN' HAT.out).mono ?_
              rintro e w5 (⟨L', i', hL, hi, hle, hodd, hno, rfl, hb⟩ | ⟨hno, rfl, hb⟩)
              · have hn' := (HF.n L' hL).2
                have hs' := (HF.slot L' hL i' hi).2
                have hi2 : i < 256 := by
                  rcases HAT.out with ⟨a, b⟩ | ⟨a, b⟩
                  · have := (HF.n L a).2; omega
                  · omega
                obtain ⟨HB5, HV5, Hb5⟩ := H4.out.mid HF hL hi hb
                have HLV : Hid (Lv w5 m mb mo k R Ln C RB RO M) := H4.out.lv0.below Hb5
                have HST := H4.out.step HF hL hi hle hodd hno hb
                have HW6 : Hid (Walk w2 (w5.setCell ⟨VB L', i', none⟩ (.bool true)) m mb mo nb (nb + 1) rb vb k R Ln C RB RO VB M nd its it (set2 hint L' (slotOf M L' i') i') (set2 V L' i' true) (stepL Ln L' i' * 256 + stepI Ln L' i')) := HST
                have hC6 : Hid (cnt (kB k Ln M) (stepL Ln L' i' * 256 + stepI Ln L' i') = c + 1) := by
                  show cnt (kB k Ln M) (stepL Ln L' i' * 256 + stepI Ln L' i') = c + 1
                  rw [cnt_step HF hL hi, cnt_hit ((kB_iff (by omega)).2 ⟨hL, hi, hodd⟩), cnt_gap _ hle (fun x h1 h2 => kB_of_none hno h1 h2), HC.out]
                have hvf : V L' i' = false := by
                  rw [H4.out.seen L' hL i' hi]
                  have : ¬ (L' * 256 + i' < L * 256 + i) := by omega
                  simp [this]
                have v0 := HV5.rows.cell hL
                rw [if_pos hL] at v0
                have v1 := (HV5.row L' hL).cell hi
                have v2 := (HV5.row L' hL).frozen i'
                rw [hvf] at v1
                have HPB : Hid (L * 256 + i ≤ L' * 256 + i') := hle
                have HBL : Hid (L' < k ∧ i' < Ln L') := ⟨hL, hi⟩
                obtain rfl := HLV.out.top (by omega)
                have m0 := HLV.out.row L' hL
                have m1 := HLV.out.cell L' hL i' hi
                have m2 := u32_and1 (M L' i') (HLV.out.rng L' hL i' hi)
                rw [hodd] at m2
                have m3 := HLV.out.rtop L' hL (by omega)
                have hs0 : (0 : Int) ≤ (slotOf M L' i' : Nat) := by omega
                have hsB : ((slotOf M L' i' : Nat) : Int) < 128 := by omega
                obtain ⟨s, hse⟩ : ∃ s, slotOf M L' i' = s := ⟨_, rfl⟩
                have HIX := indexOfSlot_any (c := C L') HLV.out hL HF hi
                rw [hse] at hs0 hsB HIX
                rw [m3] at HIX
                have HIX' : Hid (Calls Try.prog 36 #[.slice (some ⟨RB L', RO L', none⟩) (Ln L') (C L'), .int .i64 (s : Nat)] w5 fun e w' => e = .returned (.int .i64 i') ∧ w5 = w') := HIX
                rw [m3] at m0
                have q1 : ((L' : Int) * 256 + (s : Int)) / 256 = (L' : Int) := by omega
                have q2 := i64_and255 ((L' : Int) * 256 + (s : Int))
                have q3 : ((L' : Int) * 256 + (s : Int)) % 256 = (s : Int) := by omega
                rw [q3] at q2
                have q4 : IntKind.i64.wrap ((L' : Int) * 256 + (s : Int)) = (L' : Int) * 256 + (s : Int) := IntWalk.i64_in _ (by omega)
                have q5 : ¬ ((L' : Int) * 256 + (s : Int)) < 0 := by omega
                have q6 : (L' : Int) < (k : Int) := by omega
                simp only [hse]
                clear HST hle hodd hno hb HB5 HV5 Hb5 hvf q3 HIX hs' hse
                have qn := neq48 ⟨rb, 0, none⟩ w5
                go_wp2_with fail
                refine HIX'.out.mono ?_
                rintro e w' ⟨rfl, rfl⟩
                go_wp2_with fail
                refine (posBefore_any HPB.out (by omega) hi2 hL hN' w5).mono ?_
                rintro e w' ⟨rfl, rfl⟩
                go_wp2_with fail
                refine (posStep_any HW6.out.lv hN' hL hi hn').mono ?_
                rintro e w' ⟨rfl, rfl⟩
                go_wp2
                go_roundw
                case rel => exact ⟨stepL Ln L' i', stepI Ln L' i', _, _, step_at HF hL hi, by first | rfl | go_num, by first | rfl | go_num, by rw [hC6.out]; go_num, by rw [hC6.out]; go_num, HW6.out⟩
                case measure => simp [intOf]; omega
              · have hW5 := H4.out.belowSame hb
                have hfin : c = KN := by
                  rw [← HC.out, ← HKN.out]
                  exact (cnt_gap _ hcode (fun x h1 h2 => kB_of_none hno h1 h2)).symm
                subst hfin
                have HW5 : Hid (Walk w2 w5 m mb mo nb (nb + 1) rb vb k R Ln C RB RO VB M nd its it hint V (L * 256 + i)) := hW5
                clear hW5 hb hno
                go_wp2_with fail
                refine (idxesKept_any HW5.out.lv hN' HF HW5.out.built HW5.out.vis HW5.out.hints).mono ?_
                rintro e w' ⟨rfl, rfl⟩
                go_wp2
                go_ret
                exact ⟨rfl, HB2.out.trans (HW5.out.below.mono HB2.out.size)⟩
end Go.Proofs.Qxb6615153a.Nk
