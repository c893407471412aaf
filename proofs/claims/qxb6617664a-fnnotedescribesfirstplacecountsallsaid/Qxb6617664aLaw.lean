/- THE WALK OF THE LAW. -/
import Derived.Test.Qxb6617664aLoop6
import Derived.Deep.Cut
import Derived.Deep.CutRange
namespace Go.Proofs.Qxb6617664a
open Go.RowKit

/-- The four boxes as blocks. -/
structure Blocks (W : World) (B : Nat) (cF cP cC cL : Array Value) : Prop where
  f : W.heap[B]? = some (.cells cF 22 (0, 0))
  p : W.heap[B + 1]? = some (.cells cP 22 (0, 0))
  c : W.heap[B + 1 + 1]? = some (.cells cC 23 (0, 0))
  l : W.heap[B + 1 + 1 + 1]? = some (.cells cL 23 (0, 0))
theorem Blocks.below {B N : Nat} {W W' : World} {cF cP cC cL : Array Value} (h : Blocks W B cF cP cC cL) (hb : Below N W W') (hN : B + 3 < N) : Blocks W' B cF cP cC cL :=
  ⟨(hb.block _ (by omega)).trans h.f, (hb.block _ (by omega)).trans h.p, (hb.block _ (by omega)).trans h.c, (hb.block _ (by omega)).trans h.l⟩
theorem blocks_made (w : World) (cF cP cC cL : Array Value) : Blocks ((((w.alloc (.cells cF 22)).alloc (.cells cP 22)).alloc (.cells cC 23)).alloc (.cells cL 23)) w.heap.size cF cP cC cL := by
  have e1 : (w.alloc (.cells cF 22)).heap.size = w.heap.size + 1 := by simp
  have e2 : ((w.alloc (.cells cF 22)).alloc (.cells cP 22)).heap.size = w.heap.size + 1 + 1 := by simp
  have e3 : (((w.alloc (.cells cF 22)).alloc (.cells cP 22)).alloc (.cells cC 23)).heap.size = w.heap.size + 1 + 1 + 1 := by simp
  have k1 := heap_alloc_last w (.cells cF 22)
  have k2 := heap_alloc_last (w.alloc (.cells cF 22)) (.cells cP 22)
  have k3 := heap_alloc_last ((w.alloc (.cells cF 22)).alloc (.cells cP 22)) (.cells cC 23)
  have k4 := heap_alloc_last (((w.alloc (.cells cF 22)).alloc (.cells cP 22)).alloc (.cells cC 23)) (.cells cL 23)
  rw [e1] at k2
  rw [e2] at k3
  rw [e3] at k4
  refine ⟨?_, ?_, ?_, k4⟩
  · rw [Below.heap_alloc _ _ _ (by omega), Below.heap_alloc _ _ _ (by omega), Below.heap_alloc _ _ _ (by omega)]; exact k1
  · rw [Below.heap_alloc _ _ _ (by omega), Below.heap_alloc _ _ _ (by omega)]; exact k2
  · rw [Below.heap_alloc _ _ _ (by omega)]; exact k3

theorem Places.belowN {w w' : World} {a : Option Addr} {pb po n N : Nat} {Ru Le : Nat → Int} {Fi Pr : Nat → ByteArray} (h : Places w a pb po n Ru Le Fi Pr) (hp : 0 < n → pb < N) (hb : Below N w w') : Places w' a pb po n Ru Le Fi Pr :=
  ⟨h.top, fun j hj => (hb.cell (p := ⟨pb, po + j * 4, none⟩) (hp (by omega))).trans (h.c0 j hj), fun j hj => (hb.cell (p := ⟨pb, po + j * 4 + 1, none⟩) (hp (by omega))).trans (h.c1 j hj),
    fun j hj => (hb.cell (p := ⟨pb, po + j * 4 + 2, none⟩) (hp (by omega))).trans (h.c2 j hj), fun j hj => (hb.cell (p := ⟨pb, po + j * 4 + 3, none⟩) (hp (by omega))).trans (h.c3 j hj)⟩

/-- Four new blocks, each filled in turn. -/
def four (w : World) : World := (((w.alloc (.cells zs10 22)).alloc (.cells zs10 22)).alloc (.cells zi10 23)).alloc (.cells zi10 23)
structure GotBlocks (w : World) (d0 d1 d2 d3 : Array Value) : Prop where
  g0 : (four w).heap[w.heap.size]? = some (.cells zs10 22 (0, 0))
  g1 : ((four w).setRow w.heap.size d0).heap[w.heap.size + 1]? = some (.cells zs10 22 (0, 0))
  g2 : (((four w).setRow w.heap.size d0).setRow (w.heap.size + 1) d1).heap[w.heap.size + 1 + 1]? = some (.cells zi10 23 (0, 0))
  g3 : ((((four w).setRow w.heap.size d0).setRow (w.heap.size + 1) d1).setRow (w.heap.size + 1 + 1) d2).heap[w.heap.size + 1 + 1 + 1]? = some (.cells zi10 23 (0, 0))
theorem got_blocks (w : World) (d0 d1 d2 d3 : Array Value) : GotBlocks w d0 d1 d2 d3 := by
  have h := blocks_made w zs10 zs10 zi10 zi10
  refine ⟨h.f, ?_, ?_, ?_⟩
  · rw [setRow_other _ _ _ _ (by omega)]; exact h.p
  · rw [setRow_other _ _ _ _ (by omega), setRow_other _ _ _ _ (by omega)]; exact h.c
  · rw [setRow_other _ _ _ _ (by omega), setRow_other _ _ _ _ (by omega), setRow_other _ _ _ _ (by omega)]; exact h.l
def filled (w : World) (d0 d1 d2 d3 : Array Value) : World := ((((four w).setRow w.heap.size d0).setRow (w.heap.size + 1) d1).setRow (w.heap.size + 1 + 1) d2).setRow (w.heap.size + 1 + 1 + 1) d3
theorem got_below (w : World) (d0 d1 d2 d3 : Array Value) : Below w.heap.size w (filled w d0 d1 d2 d3) :=
  below_row (below_row (below_row (below_row (boxes_below w _ _ _ _) (Nat.le_refl _)) (by omega)) (by omega)) (by omega)
theorem cell_of_block {w : World} {g i n : Nat} {c : Array Value} {t : TypeId} {f : Nat → Value} (h : w.heap[g]? = some (.cells c t (0, 0))) (hc : ∀ i, i < n → c[i]? = some (f i)) (hi : i < n) : w.cell? ⟨g, i, none⟩ = some (f i) := by
  simp [World.cell?, h, hc i hi]
theorem got_boxes {w : World} {d0 d1 d2 d3 : Array Value} {F P : Nat → ByteArray} {C L : Nat → Int} (k0 : Strs d0 F) (k1 : Strs d1 P) (k2 : Ints d2 C) (k3 : Ints d3 L) : Boxes (filled w d0 d1 d2 d3) w.heap.size F P C L := by
  have h := got_blocks w d0 d1 d2 d3
  have e0 := setRow_heap _ _ _ d0 _ _ h.g0
  have e1 := setRow_heap _ _ _ d1 _ _ h.g1
  have e2 := setRow_heap _ _ _ d2 _ _ h.g2
  have e3 := setRow_heap _ _ _ d3 _ _ h.g3
  have f0 : (filled w d0 d1 d2 d3).heap[w.heap.size]? = some (.cells d0 22 (0, 0)) := by unfold filled; rw [setRow_other _ _ _ _ (by omega), setRow_other _ _ _ _ (by omega), setRow_other _ _ _ _ (by omega)]; exact e0
  have f1 : (filled w d0 d1 d2 d3).heap[w.heap.size + 1]? = some (.cells d1 22 (0, 0)) := by unfold filled; rw [setRow_other _ _ _ _ (by omega), setRow_other _ _ _ _ (by omega)]; exact e1
  have f2 : (filled w d0 d1 d2 d3).heap[w.heap.size + 1 + 1]? = some (.cells d2 23 (0, 0)) := by unfold filled; rw [setRow_other _ _ _ _ (by omega)]; exact e2
  exact ⟨fun i hi => cell_of_block f0 k0.cell hi, fun i hi => cell_of_block f1 k1.cell hi, fun i hi => cell_of_block f2 k2.cell hi, fun i hi => cell_of_block e3 k3.cell hi⟩
theorem store_row {P : Program} {w : World} {g : Nat} {t : TypeId} {old c : Array Value} (hg : w.heap[g]? = some (.cells old t (0, 0))) (ho : old.size = c.size) (h1 : c.all (·.oneCell') = true) :
    (storeCells ⟨g, 0, none⟩ c.toList 0).run P w = .ok () (w.setRow g c) := by
  have := run_storeCells_from (P := P) g t c.toList 0 old w hg (by simp; omega) (fun v hv => (Array.all_eq_true_iff_forall_mem.1 h1) v (by simpa using hv))
  simpa using this

section
variable {w2 w3 : World} {c : Array Value} {s : St}
theorem fs_laid (h : w3 = (w2.alloc (.cells z40 33)).setRow w2.heap.size c) (cs : c.size = 40) (cc : ∀ j, j < 40 → c[j]? = some (s.cell j)) : Fs w3 w2.heap.size s :=
  ⟨c, by rw [h]; exact setRow_heap _ _ z40 c 33 (0, 0) (heap_alloc_last w2 _), cs, cc⟩
theorem below_laid (h : w3 = (w2.alloc (.cells z40 33)).setRow w2.heap.size c) : Below w2.heap.size w2 w3 := by
  rw [h]; exact below_row ((Below.refl _ _).alloc (Nat.le_refl _) _) (Nat.le_refl _)
theorem size_laid (h : w3 = (w2.alloc (.cells z40 33)).setRow w2.heap.size c) : w3.heap.size = w2.heap.size + 1 := by
  rw [h]; simp [World.setRow]
end

set_option maxHeartbeats 3200000 in
set_option maxRecDepth 100000 in
theorem law_any (cF cP cC cL : Array Value) (F P : Nat → ByteArray) (C L : Nat → Int) (hF : Strs cF F) (hP : Strs cP P) (hC : Ints cC C) (hL : Ints cL L)
    (a : Option Addr) (pb po n cap : Nat) (Ru Le : Nat → Int) (Fi Pr : Nat → ByteArray) (w : World) (hIn : Places w a pb po n Ru Le Fi Pr) (hn : n ≤ maxLen) :
    Calls Try.prog 3 #[.agg cF, .agg cP, .agg cC, .agg cL, .slice a n cap] w fun e w' => e = .returned (.bool true) ∧ Below w.heap.size w w' := by
  have hBx := boxes_made w hF hP hC hL
  have hBl := boxes_below w (.cells cF 22) (.cells cP 22) (.cells cC 23) (.cells cL 23)
  have hS : ((((w.alloc (.cells cF 22)).alloc (.cells cP 22)).alloc (.cells cC 23)).alloc (.cells cL 23)).heap.size = w.heap.size + 1 + 1 + 1 + 1 := by simp
  have hIn1 := hIn.below hBl
  have hK := blocks_made w cF cP cC cL
  obtain ⟨q0, q1, q2, q3⟩ := hK
  have i0 : (Try.prog.info? 22).map (·.size) = some cF.size := by rw [hF.size]; exact Try.size22
  have i1 : (Try.prog.info? 22).map (·.size) = some cP.size := by rw [hP.size]; exact Try.size22
  have i2 : (Try.prog.info? 23).map (·.size) = some cC.size := by rw [hC.size]; exact Try.size23
  have i3 : (Try.prog.info? 23).map (·.size) = some cL.size := by rw [hL.size]; exact Try.size23
  clear hIn
  go_enter Try.func3, Try.ntmps3
  go_wp2_with (first
    | refine wpList_load_row rfl 22 (.tmp 5) rfl _ rfl 22 cF (0, 0) _ q0 Try.underlying22 rfl i0 ?_
    | refine wpList_load_row rfl 22 (.tmp 6) rfl _ rfl 22 cP (0, 0) _ q1 Try.underlying22 rfl i1 ?_
    | refine wpList_load_row rfl 23 (.tmp 7) rfl _ rfl 23 cC (0, 0) _ q2 Try.underlying23 rfl i2 ?_
    | refine wpList_load_row rfl 23 (.tmp 8) rfl _ rfl 23 cL (0, 0) _ q3 Try.underlying23 rfl i3 ?_)
  have hK := blocks_made w cF cP cC cL
  refine (zzBytes_any cF cP cC cL F P C L hF hP hC hL a pb po n cap Ru Le Fi Pr _ hIn1 hn).mono ?_
  rintro e w1 ⟨b, rfl, hB1, hb⟩
  have hBw := hBl.trans (hB1.mono hBl.size)
  have hBx1 := hBx.below hB1 (by omega)
  have hIn2 := hIn1.below hB1
  have hK1 := hK.below hB1 (by omega)
  clear hIn1 hBx hBl hB1 hS hK q0 q1 q2 q3
  cases b
  · go_wp2
    go_ret
    exact ⟨rfl, hBw⟩
  obtain ⟨hsm, hn1, hsp⟩ := hb rfl
  clear hb hn
  by_cases hn2 : n ≤ 65536
  rotate_left
  · go_wp2
    go_ret
    exact ⟨rfl, hBw⟩
  have hd43 : decide ((65536 : Int) < (n : Int)) = false := decide_eq_false (by omega)
  go_wp2
  go_loop [11, 12] (fun z v => Upto 10 (fun _ => True) z v) (fun _ v => 10 - (intOf v).toNat)
  case atStart => exact ⟨0, 0, by omega, rfl, rfl, by omega, by omega, fun i hi => absurd hi (Nat.not_lt_zero _)⟩
  case round =>
    obtain ⟨k, s, hk, rfl, rfl, h0, h1, -⟩ := hrel
    by_cases hlt : k < 10
    · have c0 := hBx1.f k hlt
      have c1 := hBx1.p k hlt
      have l0 := hsm k hlt
      obtain ⟨l0, l1⟩ := l0
      clear hBx1 hIn2 hsm hsp
      go_wp2
      all_goals first
        | (go_round
           case rel => exact ⟨k + 1, _, by omega, by go_num, rfl, by omega, by omega, fun _ _ => trivial⟩
           case measure => simp [intOf]; omega)
        | (go_ret; exact ⟨rfl, hBw⟩)
    · obtain rfl : k = 10 := by omega
      clear hlt hk hsm
      go_wp2
      go_loop [11, 13] (fun z v => Upto n (fun _ => True) z v) (fun _ v => n - (intOf v).toNat)
      case atStart => exact ⟨0, s, by omega, rfl, rfl, h0, h1, fun i hi => absurd hi (Nat.not_lt_zero _)⟩
      case round =>
        obtain ⟨k, s, hk, rfl, rfl, h0, h1, -⟩ := hrel
        by_cases hlt : k < n
        · obtain rfl := hIn2.top (by omega)
          have c2 := hIn2.c2 k hlt
          have c3 := hIn2.c3 k hlt
          obtain ⟨l0, l1⟩ := hsp k hlt
          clear hBx1 hIn2 hsp hK1
          go_wp2
          all_goals first
            | (go_round
               case rel => exact ⟨k + 1, _, by omega, by go_num, rfl, by omega, by omega, fun _ _ => trivial⟩
               case measure => simp [intOf]; omega)
            | (go_ret; exact ⟨rfl, hBw⟩)
        · obtain rfl : k = n := by omega
          clear hlt hk hsp h0 h1
          go_wp2
          go_loop [14] (fun v => Seen 10 (fun i => 0 ≤ C i ∧ C i ≤ 1099511627776) v) (fun v => 10 - (intOf v).toNat)
          case atStart => exact ⟨0, by omega, rfl, fun i hi => absurd hi (Nat.not_lt_zero _)⟩
          case round =>
            obtain ⟨i, hi, rfl, hq⟩ := hrel
            have HQ : Hid (∀ j, j < i → 0 ≤ C j ∧ C j ≤ 1099511627776) := hq
            clear hq
            by_cases hlt : i < 10
            · have c0 := hBx1.c i hlt
              clear hBx1 hIn2 hK1
              generalize hCi : C i = Ci at *
              have HC : Hid (C i = Ci) := hCi
              clear hCi
              by_cases g1 : Ci < 0
              · have g1' : decide (Ci < 0) = true := decide_eq_true g1
                go_wp2
                go_ret
                exact ⟨rfl, hBw⟩
              · by_cases g2 : 1099511627776 < Ci
                · go_wp2
                  go_ret
                  exact ⟨rfl, hBw⟩
                · go_wp2
                  go_round
                  case rel => exact ⟨i + 1, by omega, by go_num, Upto.step HQ.out ⟨by rw [HC.out]; omega, by rw [HC.out]; omega⟩⟩
                  case measure => simp [intOf]; omega
            · obtain rfl : i = 10 := by omega
              clear hlt hi
              go_wp2
              go_loop [15] (fun v => Seen k (fun j => 0 ≤ Ru j ∧ Ru j < 10) v) (fun v => k - (intOf v).toNat)
              case atStart => exact ⟨0, by omega, rfl, fun i hi => absurd hi (Nat.not_lt_zero _)⟩
              case round =>
                obtain ⟨j, hj, rfl, hq⟩ := hrel
                have HR : Hid (∀ i, i < j → 0 ≤ Ru i ∧ Ru i < 10) := hq
                clear hq
                by_cases hlt : j < k
                · obtain rfl := hIn2.top (by omega)
                  have c0 := hIn2.c0 j hlt
                  clear hBx1 hIn2 hK1
                  generalize hCi : Ru j = Ci at *
                  have HC : Hid (Ru j = Ci) := hCi
                  clear hCi
                  by_cases g1 : Ci < 0
                  · go_wp2
                    go_ret
                    exact ⟨rfl, hBw⟩
                  · by_cases g2 : 10 ≤ Ci
                    · go_wp2
                      go_ret
                      exact ⟨rfl, hBw⟩
                    · go_wp2
                      go_round
                      case rel => exact ⟨j + 1, by omega, by go_num, Upto.step HR.out ⟨by rw [HC.out]; omega, by rw [HC.out]; omega⟩⟩
                      case measure => simp [intOf]; omega
                · obtain rfl : j = k := by omega
                  clear hlt hj
                  go_upto_region 37 with fail
                  go_cut [16] from 34 (fun s16 wx => ∃ b : Nat, s16 = .pointer (some ⟨b, 0, none⟩) ∧ Fs wx b ⟨F, P, C, L⟩ ∧ Below w1.heap.size w1 wx ∧ w1.heap.size ≤ b)
                  case first =>
                    obtain ⟨q0, q1, q2, q3⟩ := hK1
                    go_wp2_with (first
                      | refine wpList_load_row rfl 22 (.tmp 5) rfl _ rfl 22 cF (0, 0) _ q0 Try.underlying22 rfl i0 ?_
                      | refine wpList_load_row rfl 22 (.tmp 6) rfl _ rfl 22 cP (0, 0) _ q1 Try.underlying22 rfl i1 ?_
                      | refine wpList_load_row rfl 23 (.tmp 7) rfl _ rfl 23 cC (0, 0) _ q2 Try.underlying23 rfl i2 ?_
                      | refine wpList_load_row rfl 23 (.tmp 8) rfl _ rfl 23 cL (0, 0) _ q3 Try.underlying23 rfl i3 ?_)
                    refine (make_any cF cP cC cL F P C L hF hP hC hL _).mono ?_
                    rintro e w2 ⟨c, rfl, cs, cc, hB2⟩
                    clear q0 q1 q2 q3 i0 i1 i2 i3 hF hP hC hL
                    have hone := all_one cs cc (fun _ => St.one _ _)
                    have i4 : (Try.prog.info? 33).map (·.size) = some c.size := by rw [cs]; exact Try.size33
                    have HC : Hid (∀ j, j < 40 → c[j]? = some (St.cell ⟨F, P, C, L⟩ j)) := cc
                    clear cc
                    go_wp2_with (refine wpList_store_row rfl 33 (.tmp 16) (.tmp 132) rfl w2.heap.size c rfl rfl 33 z40 (by exact heap_alloc_last w2 _) i4 (by rw [cs]; rfl) hone ?_)
                    go_meet
                    exact ⟨w2.heap.size, rfl, fs_laid rfl cs HC.out, hB2.trans ((below_laid rfl).mono hB2.size), hB2.size⟩
                  case rest =>
                  clear hK1 i0 i1 i2 i3 hF hP hC hL
                  obtain ⟨n, rfl⟩ : ∃ n, n = j := ⟨_, rfl⟩
                  obtain ⟨b, rfl, hfs, hBc, hb⟩ := hcut
                  have hz1 : w.heap.size + 1 + 1 + 1 < w1.heap.size := World.block_lt_of_cell? _ _ (hBx1.l 0 (by omega))
                  have hIn3 := hIn2.below hBc
                  have hBx3 := hBx1.below hBc (by omega)
                  have hpb : 0 < n → pb < b := fun h => by have := World.block_lt_of_cell? _ _ (hIn2.c0 0 h); simp only at this; omega
                  clear hIn2 hBx1
                  go_wp2
                  go_loopw [17] (fun v wr => ∃ j : Nat, j ≤ n ∧ v = .int .i64 j ∧ Fs wr b (run ⟨F, P, C, L⟩ Ru Le Fi Pr j) ∧ Below b wc wr) (fun v _ => n - (intOf v).toNat)
                  case atStart => exact ⟨0, by omega, rfl, hfs, Below.refl _ _⟩
                  case round =>
                    obtain ⟨j, hj, rfl, hfr, hbr⟩ := hrel
                    by_cases hlt : j < n
                    · obtain rfl := hIn3.top (by omega)
                      have hpb' := hpb (by omega)
                      obtain ⟨ρ, hρ⟩ : ∃ ρ : Nat, Ru j = ρ := ⟨(Ru j).toNat, by have := HR.out j hlt; omega⟩
                      have hρ10 : ρ < 10 := by have := HR.out j hlt; omega
                      have c0 := (hbr.cell (p := ⟨pb, po + j * 4, none⟩) hpb').trans (hIn3.c0 j hlt)
                      have c1 := (hbr.cell (p := ⟨pb, po + j * 4 + 1, none⟩) hpb').trans (hIn3.c1 j hlt)
                      have c2 := (hbr.cell (p := ⟨pb, po + j * 4 + 2, none⟩) hpb').trans (hIn3.c2 j hlt)
                      have c3 := (hbr.cell (p := ⟨pb, po + j * 4 + 3, none⟩) hpb').trans (hIn3.c3 j hlt)
                      rw [hρ] at c0
                      have HP : Hid (Ru j = ρ) := hρ
                      have hCr := run_C (s := ⟨F, P, C, L⟩) (Le := Le) (Fi := Fi) (Pr := Pr) (r := ρ) j (fun i hi => (HR.out i (by omega)).1)
                      have hcn := cnt_le (Ru := Ru) (r := ρ) j
                      have hcc : 0 ≤ (run ⟨F, P, C, L⟩ Ru Le Fi Pr j).C ρ ∧ (run ⟨F, P, C, L⟩ Ru Le Fi Pr j).C ρ ≤ 2199023255552 := by
                        rw [hCr]; have := HQ.out ρ hρ10; simp only; omega
                      have HCC : Hid (0 ≤ (run ⟨F, P, C, L⟩ Ru Le Fi Pr j).C ρ ∧ (run ⟨F, P, C, L⟩ Ru Le Fi Pr j).C ρ ≤ 2199023255552) := hcc
                      clear hρ hCr hcn hcc hIn3 hBx3
                      go_wp2_with fail
                      refine (zzNote_any b ρ (Le j) (Fi j) (Pr j) (run ⟨F, P, C, L⟩ Ru Le Fi Pr j) _ (by exact World.rowIs.alloc hfr _) hρ10 HCC.out).mono ?_
                      rintro e w4 ⟨rfl, hf4, hb4⟩
                      have hb4' : Below b wc w4 := (hbr.alloc (Nat.le_of_lt hfr.lt) _).trans hb4
                      have hf4' : Fs w4 b (run ⟨F, P, C, L⟩ Ru Le Fi Pr (j + 1)) := by
                        unfold run
                        rw [show (Ru j).toNat = ρ by rw [HP.out]; rfl]
                        exact hf4
                      clear hf4 hb4 hfr hbr c0 c1 c2 c3
                      go_wp2
                      go_roundw
                      case rel => exact ⟨j + 1, by omega, by go_num, hf4', hb4'⟩
                      case measure => simp [intOf]; omega
                    · obtain rfl : j = n := by omega
                      obtain ⟨S, hS⟩ : ∃ S, S = run ⟨F, P, C, L⟩ Ru Le Fi Pr j := ⟨_, rfl⟩
                      rw [← hS] at hfr
                      have HS : Hid (S = run ⟨F, P, C, L⟩ Ru Le Fi Pr j) := hS
                      have hIn4 : Places wr a pb po j Ru Le Fi Pr := hIn3.belowN hpb hbr
                      have hBx4 := hBx3.below hbr (by omega)
                      have hB4 : Below w.heap.size w wr := (hBw.trans (hBc.mono hBw.size)).trans (hbr.mono (by omega))
                      clear hS hIn3 hBx3 hlt hj hpb hfs hbr hBc hBw hz1 hb
                      go_upto_region 43 with fail
                      go_cut [19, 20, 21, 22] from 34 (fun s19 s20 s21 s22 wx => ∃ g : Nat, s19 = .pointer (some ⟨g, 0, none⟩) ∧ s20 = .pointer (some ⟨g + 1, 0, none⟩) ∧ s21 = .pointer (some ⟨g + 1 + 1, 0, none⟩) ∧ s22 = .pointer (some ⟨g + 1 + 1 + 1, 0, none⟩) ∧ Boxes wx g S.F S.P S.C S.L ∧ Below wr.heap.size wr wx)
                      case first =>
                        go_wp2_with fail
                        refine (read_any b S _ hfr).mono ?_
                        rintro e w5 ⟨d0, d1, d2, d3, rfl, k0, k1, k2, k3, hb5⟩
                        have hKA := blocks_made w5 zs10 zs10 zi10 zi10
                        have ha0 := all_one k0.size k0.cell (fun _ => rfl)
                        have ha1 := all_one k1.size k1.cell (fun _ => rfl)
                        have ha2 := all_one k2.size k2.cell (fun _ => rfl)
                        have ha3 := all_one k3.size k3.cell (fun _ => rfl)
                        have HG := got_blocks w5 d0 d1 d2 d3
                        have st0 := store_row (P := Try.prog) (c := d0) HG.g0 k0.size.symm ha0
                        have st1 := store_row (P := Try.prog) (c := d1) HG.g1 k1.size.symm ha1
                        have st2 := store_row (P := Try.prog) (c := d2) HG.g2 k2.size.symm ha2
                        have st3 := store_row (P := Try.prog) (c := d3) HG.g3 k3.size.symm ha3
                        have n0 := k0.size
                        have n1 := k1.size
                        have n2 := k2.size
                        have n3 := k3.size
                        clear HG ha0 ha1 ha2 ha3 hKA
                        simp only [four, zs10, zi10] at st0 st1 st2 st3
                        go_wp2
                        go_meet
                        exact ⟨w5.heap.size, rfl, rfl, rfl, rfl, got_boxes k0 k1 k2 k3, hb5.trans ((got_below w5 d0 d1 d2 d3).mono hb5.size)⟩
                      case rest =>
                      obtain ⟨n, rfl⟩ : ∃ n, n = j := ⟨_, rfl⟩
                      obtain ⟨g, rfl, rfl, rfl, rfl, hGot, hbc⟩ := hcut
                      have hIn5 := hIn4.below hbc
                      have hz4 : w.heap.size + 1 + 1 + 1 < wr.heap.size := World.block_lt_of_cell? _ _ (hBx4.l 0 (by omega))
                      have hBx5 := hBx4.below hbc (by omega)
                      have hB5 : Below w.heap.size w wc := hB4.trans (hbc.mono (by omega))
                      clear hIn4 hBx4 hB4 hbc hfr hz4
                      go_wp2
                      refine loop6 a pb po n cap w.heap.size g F P C L S Ru Le Fi Pr _ hIn5 hn2 hBx5 hGot HQ HR HS ?_
                      clear hIn5 hBx5 hGot HQ HR HS
                      intro x10 x23 x24 x25 x26 x27 x28 x29 x30 x31 x32 x33 x158 x159 x160 x161 x162 x163 x164 x165 x166 x167 x168 x169 x170 x171 x172 x173 x174 x175 x176 x177 x178 x179 x180 x181 x182 x183 x184 x185 x186 x187 x188 x189 x190 x191 x192 x193 x194 x195 x196 x197 x198 x199 x200 x201 x202 x203 x204 x205 x206 x207 x208 x209 x210 x211 x212 x213 x214 x215 x216 x217 x218 x219 x220 x221 x222 x223 x224 x225 x226 x227 x228 x229 x230 x231 x232 x233 x234 x235 x236 x237 x238 x239 x240 x241 x242 x243 x244 x245 x246 x247 x248 x249 x250 x251 x252 x253 x254 x255 x256 x257 x258 x259 x260 x261 x262 x263 x264 x265 x266 x267 x268 x269 x270 x271 x272 x273 x274 x275 x276 x277 x278 x279 x280 x281 x282 x283 x284 x285 x286 x287 x288 x289 x290
                      go_wp2
                      go_ret
                      exact ⟨rfl, hB5⟩
end Go.Proofs.Qxb6617664a
