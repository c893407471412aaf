/- THE WALK OF buildLeaves. -/
import Derived.Test.Qxb6615153aBuild
import Derived.Deep.RegionHeld
namespace Go.Proofs.Qxb6615153a.Nk
open Go.RowKit
set_option linter.unusedVariables false

theorem Try.info56 : (Try.prog.info? 56).map (fun i => (i.zero, i.size, i.bytes)) = some (some (.pointer none), 1, 8) := by kernel_rfl
theorem Try.info101 : (Try.prog.info? 101).map (fun i => (i.zero, i.size, i.bytes)) = some (some (.slice none 0 0), 1, 24) := by kernel_rfl

/-- The leaves' marks as they came in. -/
structure Lv (w : World) (m : Option Addr) (mb mo N : Nat) (R : Nat → Option Addr) (Ln C RB RO : Nat → Nat) (M : Nat → Nat → Int) : Prop where
  top : 0 < N → m = some ⟨mb, mo, none⟩
  row : ∀ r, r < N → w.cell? ⟨mb, mo + r, none⟩ = some (.slice (R r) (Ln r) (C r))
  rtop : ∀ r, r < N → 0 < Ln r → R r = some ⟨RB r, RO r, none⟩
  cell : ∀ r, r < N → ∀ i, i < Ln r → w.cell? ⟨RB r, RO r + i, none⟩ = some (.int .u32 (M r i))
  rng : ∀ r, r < N → ∀ i, i < Ln r → 0 ≤ M r i ∧ M r i ≤ 4294967295

theorem Lv.below {w w' : World} {m : Option Addr} {mb mo N : Nat} {R : Nat → Option Addr} {Ln C RB RO : Nat → Nat} {M : Nat → Nat → Int} (h : Lv w m mb mo N R Ln C RB RO M) (hb : Below w.heap.size w w') : Lv w' m mb mo N R Ln C RB RO M :=
  ⟨h.top, fun r hr => by rw [hb.cell (p := ⟨mb, mo + r, none⟩) (World.block_lt_of_cell? _ _ (h.row r hr))]; exact h.row r hr, h.rtop,
    fun r hr i hi => by rw [hb.cell (p := ⟨RB r, RO r + i, none⟩) (World.block_lt_of_cell? _ _ (h.cell r hr i hi))]; exact h.cell r hr i hi, h.rng⟩

theorem Built.heap {wr w' : World} {nb lb rb N k : Nat} {Ln : Nat → Nat} {M : Nat → Nat → Int} {nd its : Nat → Nat} {it : Nat → Nat → Nat} {hint : Nat → Nat → Int} (h : Built wr nb lb rb N k Ln M nd its it hint) (e : w'.heap = wr.heap) : Built w' nb lb rb N k Ln M nd its it hint :=
  ⟨h.nodes.of_block (by rw [e]), h.lists.of_block (by rw [e]), fun j hj => (h.leaf j hj).keep (fun _ _ _ _ _ => by rw [e])⟩

set_option maxHeartbeats 3200000 in
set_option maxRecDepth 100000 in
theorem buildLeaves_any (m : Option Addr) (mb mo N cap rb : Nat) (R : Nat → Option Addr) (Ln C RB RO : Nat → Nat) (M : Nat → Nat → Int) (w : World) (h : Lv w m mb mo N R Ln C RB RO M) (hN : N ≤ 4096) (hn : ∀ j, j < N → 0 < Ln j ∧ Ln j ≤ 128) :
    Calls Try.prog 29 #[.slice m N cap, .pointer (some ⟨rb, 0, none⟩)] w fun e w' => e = .returned (.tuple #[.slice (some ⟨w.heap.size, 0, none⟩) N N, .slice (some ⟨w.heap.size + 1, 0, none⟩) N N]) ∧ Below w.heap.size w w' ∧ ∃ nd its it, Built w' w.heap.size (w.heap.size + 1) rb N (N - 1) Ln M nd its it (fun _ s => s) ∧ ∀ j, j < N → ∀ s, s < Ln j → w.heap.size ≤ it j s := by
  have hmk1 := run_make_row' (P := Try.prog) 50 56 (.pointer none) 8 Try.underlying50 Try.info56 rfl .i64 .i64 N (by omega) (by omega)
  have hmk2 := run_make_row' (P := Try.prog) 51 101 (.slice none 0 0) 24 Try.underlying51 Try.info101 rfl .i64 .i64 N (by omega) (by omega)
  go_enter Try.func29, Try.ntmps29
  go_wp2
  clear hmk1 hmk2
  go_loopw [8] (fun v wr => ∃ (k : Nat) (nd its : Nat → Nat) (it : Nat → Nat → Nat), k ≤ N ∧ v = .int .i64 k ∧ Outer w wr rb N k Ln M nd its it) (fun v _ => N - (intOf v).toNat)
  case atStart => exact ⟨0, _, _, _, Nat.zero_le _, rfl, outer_start w rb N Ln M⟩
  case round =>
    obtain ⟨k, nd, its, it, hk, rfl, hO⟩ := hrel
    by_cases hlt : k < N
    · obtain rfl := h.top (by omega)
      obtain ⟨hn0, hn1⟩ := hn k hlt
      have h1 := h.below hO.below
      have c0 := h1.row k hlt
      obtain ⟨Rk, hRk⟩ : ∃ Rk, R k = Rk := ⟨_, rfl⟩
      rw [hRk] at c0
      have hrt := h1.rtop k hlt hn0
      rw [hRk] at hrt
      obtain rfl := hrt
      obtain ⟨n, hnn⟩ : ∃ n, Ln k = n := ⟨_, rfl⟩
      rw [hnn] at c0 hn0 hn1
      have HN : Hid (Ln k = n) := hnn
      have hmk := run_make_row' (P := Try.prog) 101 94 (.pointer none) 8 Try.underlying101 Try.info94 rfl .i64 .i64 n (by omega) (by omega)
      clear hRk hnn
      go_wp2_with (go_at_call 42; refine (newLeaf_any _).mono ?_; rintro e w' ⟨rfl, rfl⟩)
      clear hmk
      obtain ⟨w0, rfl⟩ : ∃ w0, w0 = wr := ⟨_, rfl⟩
      have HO : Hid (Outer w w0 rb N k Ln M nd its it) := hO
      have hsz0 := hO.size
      clear hO
      go_loopw [12] (fun v wi => ∃ (s : Nat) (it' : Nat → Nat) (iv : Value), s ≤ n ∧ v = .int .i64 s ∧ Mid2 w0 wi rb k n s it' iv) (fun v _ => n - (intOf v).toNat)
      case atStart => exact ⟨0, _, _, Nat.zero_le _, rfl, mid2_start w0 rb k n⟩
      case round =>
        obtain ⟨s, it', iv, hs, rfl, hM2⟩ := hrel
        by_cases hsl : s < n
        · have r1 := fun o => (hM2.its.alloc o).cell hsl
          have r2 := fun o => (hM2.its.alloc o).frozen s
          have q1 := mid2_node hM2
          have q2 := mid2_own hM2
          have q3 := mid2_size hM2
          have hsz2 := hM2.size
          have HM2 : Hid (Mid2 w0 wr rb k n s it' iv) := hM2
          have Q1 : Hid (Node (W1 w0 wr rb k s) w0.heap.size (.slice none 0 0) iv (.pointer none)) := q1
          have Q2 : Hid ((W1 w0 wr rb k s).ownsRow (w0.heap.size + 1 + 1) 94 1 iv s ((List.range s).map fun j => ptr (it' j))) := q2
          have Q3 : Hid ((W1 w0 wr rb k s).heap.size = wr.heap.size + 1) := q3
          clear q1 q2 q3 hM2
          go_wp2_with fail
          refine (newItem_any _ _ _ _).mono ?_
          rintro e w' ⟨rfl, rfl⟩
          go_wp2_with fail
          refine (addItem_any w0.heap.size (w0.heap.size + 1 + 1) s _ iv _ _ (some ⟨wr.heap.size, 0, none⟩) (W1 w0 wr rb k s) Q1.out Q2.out (by rw [Q3.out]; omega) (by omega) (by omega)).mono ?_
          rintro e w2 ⟨rfl, iv', hnd2, had⟩
          have R := mid2_step HM2.out hnd2 had
          clear hnd2 had HM2 Q1 Q2 Q3 r1 r2
          go_wp2
          go_roundw
          case rel => exact ⟨s + 1, _, iv', by omega, by go_num, R⟩
          case measure => simp [intOf]; omega
        · obtain rfl : s = n := by omega
          have hM3 : Mid3 w0 wr rb k s 0 (M k) it' (.slice none 0 0) iv := mid3_start hM2
          clear hM2 hsl hs
          go_wp2
          go_loopw [13] (fun v wi => ∃ (i : Nat) (mv : Value), i ≤ s ∧ v = .int .i64 i ∧ Mid3 w0 wi rb k s i (M k) it' mv iv) (fun v _ => s - (intOf v).toNat)
          case atStart => exact ⟨0, _, Nat.zero_le _, rfl, hM3⟩
          case round =>
            obtain ⟨i, mv, hi, rfl, hM⟩ := hrel
            clear hM3
            by_cases hil : i < s
            · have c1 := (h1.below hM.below).cell k hlt i (by rw [HN.out]; exact hil)
              have hszi := hM.size
              have HM : Hid (Mid3 w0 wr rb k s i (M k) it' mv iv) := hM
              clear hM
              go_wp2_with fail
              refine (addMark_any w0.heap.size (w0.heap.size + 1 + 1) i _ _ _ _ (M k i) _ HM.out.node HM.out.marks (by omega) (by omega) (by omega)).mono ?_
              rintro e w2 ⟨rfl, mv', hnd2, had⟩
              have R := mid3_step HM.out hnd2 had
              clear hnd2 had HM c1
              go_wp2
              go_roundw
              case rel => exact ⟨i + 1, mv', by omega, by go_num, R⟩
              case measure => simp [intOf]; omega
            · obtain rfl : i = s := by omega
              have hn3 := (HO.out.nodes.below hM.below HO.out.nodes.lt)
              have hl3 := (HO.out.lists.below hM.below HO.out.lists.lt)
              have r1 := hn3.cell hlt
              have r2 := hn3.frozen k
              have r3 := fun v => (hl3.setOther (a := ⟨w.heap.size, k, none⟩) (by show w.heap.size + 1 ≠ w.heap.size; omega) v).cell hlt
              have r4 := fun v => (hl3.setOther (a := ⟨w.heap.size, k, none⟩) (by show w.heap.size + 1 ≠ w.heap.size; omega) v).frozen k
              have R := outer_step HO.out (by rw [HN.out]; exact hM) (by rw [HN.out]; exact hn0)
              rw [HN.out] at R
              have HRR : Hid (_) := R
              clear R hn3 hl3 hM
              go_wp2
              go_roundw
              case rel => exact ⟨k + 1, _, _, _, by omega, by go_num, HRR.out⟩
              case measure => simp [intOf]; omega
    · obtain rfl : k = N := by omega
      have hB0 := built_start hO
      have hbw := hO.below
      have HLO : Hid (∀ j, j < k → w.heap.size ≤ nd j ∧ ∀ s, s < Ln j → w.heap.size ≤ it j s) := hO.lo
      have HLO : Hid (∀ j, j < k → w.heap.size ≤ nd j ∧ ∀ s, s < Ln j → w.heap.size ≤ it j s) := hO.lo
      have HH : Hid (∀ j, j < k → 0 < Ln j) := fun j hj => (hn j hj).1
      clear hO hlt hk h hn
      go_wp2
      go_loopw [14] (fun v wi => ∃ j : Nat, (j ≤ k - 1) ∧ v = .int .i64 j ∧ Built wi w.heap.size (w.heap.size + 1) rb k j Ln M nd its it (fun _ s => s) ∧ Below w.heap.size w wi) (fun v _ => k - (intOf v).toNat)
      case atStart => exact ⟨0, Nat.zero_le _, rfl, hB0, hbw⟩
      case round =>
        obtain ⟨j, hj, rfl, hB, hbw'⟩ := hrel
        clear hB0 hbw
        by_cases hjl : j + 1 < k
        · have c0 := hB.nodes.cell (show j < k by omega)
          have c1 := hB.nodes.cell (show j + 1 < k by omega)
          have hjl' : (j : Int) + 1 < (k : Int) := by omega
          have hj0 : (j : Int) < (k : Int) := by omega
          obtain ⟨mk, mc, ib, ic, hnd, _, _⟩ := (hB.leaf j (by omega)).node
          have HND : Hid (Node wr (nd j) (.slice (some ⟨mk, 0, none⟩) (Ln j) mc) (.slice (some ⟨ib, 0, none⟩) (Ln j) ic) (nxt nd j j)) := hnd
          have R1 : Hid (Built (wr.setCell ⟨nd j, 10, none⟩ (ptr (nd (j + 1)))) w.heap.size (w.heap.size + 1) rb k (j + 1) Ln M nd its it (fun _ s => s)) := built_link hB hjl HH.out
          have R2 : Hid (w.heap.size ≤ nd j) := (HLO.out j (by omega)).1
          clear hnd
          simp only [ptr] at c0 c1
          have HBW : Hid (Below w.heap.size w wr) := hbw'
          clear hB hbw'
          go_wp2
          have hj2 : (0 : Int) ≤ (j : Int) + 1 := by omega
          have hj3 : ((j : Int) + 1).toNat = j + 1 := by omega
          have hw1 : IntKind.i64.wrap ((j : Int) + 1) = (j : Int) + 1 := IntWalk.i64_in _ (by omega)
          go_region_with (go_at_call 46; refine (setNext_any (nd j) (nd (j + 1)) _ _ _ _ (by exact HND.out)).mono ?_; rintro e w' ⟨rfl, rfl⟩)
          all_goals (clear c0 c1 HND hw1; go_wp2; go_roundw)
          all_goals first
            | exact ⟨j + 1, by omega, by go_num, R1.out.heap rfl, ((HBW.out).drew).setCell (p := ⟨nd j, 10, none⟩) R2.out _⟩
            | (simp [intOf]; omega)
        · obtain rfl : j = k - 1 := by omega
          have hjn : decide ((((k - 1 : Nat) : Int) + 1) < (k : Int)) = false := by simp; omega
          have HB : Hid (_) := hB
          have HBW : Hid (_) := hbw'
          clear hB hbw'
          go_wp2
          go_ret2
          exact ⟨rfl, HBW.out, nd, its, it, HB.out, fun j hj => (HLO.out j hj).2⟩
end Go.Proofs.Qxb6615153a.Nk
