/- THE WALK OF ZZRead. -/
import Derived.Test.Qxb6617664aMake
import Derived.Deep.QuietTactic
namespace Go.Proofs.Qxb6617664a
open Go.RowKit

theorem Try.size22 : (Try.prog.info? 22).map (·.size) = some 10 := by kernel_rfl
theorem Try.size23 : (Try.prog.info? 23).map (·.size) = some 10 := by kernel_rfl

section
variable {P : Program} {ops : Array Oper} {C : World → Prop}
theorem quiet_load {o : Oper} {a : Act} {K : Act → Prop} (hgd : o.guard = none) (ty : TypeId) (x : Operand) (ho : o.op = .load ty x) (g : Nat) (hx : a.eval x = .pointer (some ⟨g, 0, none⟩)) (t : TypeId) (cs : Array Value) (fr : Nat × Nat) (d : TypeDesc)
    (hg : ∀ w, C w → w.heap[g]? = some (.cells cs t fr)) (hu : P.underlying ty = some d) (hd : (match d with | .struct _ | .array _ _ => true | _ => false) = true) (hi : (P.info? ty).map (·.size) = some cs.size)
    (h : K (a.put o.dst (.agg cs))) : if Region.wanted o (yielded ops a.tmps) then o.quiet P a C K else K (a.put o.dst undef) := by
  rw [if_pos (by simp [Region.wanted, hgd])]
  refine ⟨.agg cs, fun w hw => ?_, h⟩
  unfold Oper.quietAt execOp
  simp only [ho, hx, Instr.loadAt, Instr.sureAddr, Sem.run_bind, Sem.run_pure, Result.andThen_ok, run_loadVar_row w g t ty cs fr d (hg w hw) hu hd hi]
  exact ⟨rfl, rfl⟩

theorem setRow_same {w : World} {g : Nat} {cs : Array Value} {t : TypeId} (hg : w.heap[g]? = some (.cells cs t (0, 0))) : w.setRow g cs = w := by
  have hv : w.heap[g]'((Array.getElem?_eq_some_iff.1 hg).1) = .cells cs t (0, 0) := (Array.getElem?_eq_some_iff.1 hg).2
  unfold World.setRow
  cases w with
  | mk heap tape drawn os output =>
    congr 1
    apply Array.ext
    · simp
    · intro k h1 h2
      simp only [Array.getElem_modify]
      split
      · rename_i hk; subst hk; simp at hv; simp [hv]
      · rfl

theorem quiet_store {o : Oper} {a : Act} {K : Act → Prop} (hgd : o.guard = none) (ty : TypeId) (x y : Operand) (ho : o.op = .store ty x y) (g : Nat) (cs : Array Value) (hx : a.eval x = .pointer (some ⟨g, 0, none⟩)) (hy : a.eval y = .agg cs) (t : TypeId)
    (hg : ∀ w, C w → w.heap[g]? = some (.cells cs t (0, 0))) (hi : (P.info? ty).map (·.size) = some cs.size) (h1 : cs.all (·.oneCell') = true)
    (h : K (a.put o.dst undef)) : if Region.wanted o (yielded ops a.tmps) then o.quiet P a C K else K (a.put o.dst undef) := by
  rw [if_pos (by simp [Region.wanted, hgd])]
  refine ⟨undef, fun w hw => ?_, h⟩
  unfold Oper.quietAt execOp
  simp only [ho, hx, hy, Instr.storeAt, Instr.sureAddr, Sem.run_bind, Sem.run_pure, Result.andThen_ok, run_storeVar_row w g t ty cs cs (hg w hw) hi rfl h1, setRow_same (hg w hw)]
  exact ⟨rfl, rfl⟩
end

theorem results_cells4 {P : Program} {fn : Func} {p0 p1 p2 p3 : Tmp} {t0 t1 t2 t3 : TypeId} (h : fn.results = #[.cell p0 t0, .cell p1 t1, .cell p2 t2, .cell p3 t3]) (tmps : Array Value) (w : World) (g0 g1 g2 g3 : Nat) (u0 u1 u2 u3 : TypeId) (c0 c1 c2 c3 : Array Value) (d0 d1 d2 d3 : TypeDesc)
    (hp0 : tmps.getD p0 undef = .pointer (some ⟨g0, 0, none⟩)) (hp1 : tmps.getD p1 undef = .pointer (some ⟨g1, 0, none⟩)) (hp2 : tmps.getD p2 undef = .pointer (some ⟨g2, 0, none⟩)) (hp3 : tmps.getD p3 undef = .pointer (some ⟨g3, 0, none⟩))
    (hg0 : w.heap[g0]? = some (.cells c0 u0 (0, 0))) (hg1 : w.heap[g1]? = some (.cells c1 u1 (0, 0))) (hg2 : w.heap[g2]? = some (.cells c2 u2 (0, 0))) (hg3 : w.heap[g3]? = some (.cells c3 u3 (0, 0)))
    (hu0 : P.underlying t0 = some d0) (hu1 : P.underlying t1 = some d1) (hu2 : P.underlying t2 = some d2) (hu3 : P.underlying t3 = some d3)
    (hd0 : (match d0 with | .struct _ | .array _ _ => true | _ => false) = true) (hd1 : (match d1 with | .struct _ | .array _ _ => true | _ => false) = true) (hd2 : (match d2 with | .struct _ | .array _ _ => true | _ => false) = true) (hd3 : (match d3 with | .struct _ | .array _ _ => true | _ => false) = true)
    (hi0 : (P.info? t0).map (·.size) = some c0.size) (hi1 : (P.info? t1).map (·.size) = some c1.size) (hi2 : (P.info? t2).map (·.size) = some c2.size) (hi3 : (P.info? t3).map (·.size) = some c3.size) :
    (results fn tmps).run P w = .ok (.tuple #[.agg c0, .agg c1, .agg c2, .agg c3]) w := by
  have e0 : tmps[p0]?.getD undef = .pointer (some ⟨g0, 0, none⟩) := by simpa using hp0
  have e1 : tmps[p1]?.getD undef = .pointer (some ⟨g1, 0, none⟩) := by simpa using hp1
  have e2 : tmps[p2]?.getD undef = .pointer (some ⟨g2, 0, none⟩) := by simpa using hp2
  have e3 : tmps[p3]?.getD undef = .pointer (some ⟨g3, 0, none⟩) := by simpa using hp3
  simp [results, h, e0, e1, e2, e3, asAddr, run_loadVar_row w g0 u0 t0 c0 (0, 0) d0 hg0 hu0 hd0 hi0, run_loadVar_row w g1 u1 t1 c1 (0, 0) d1 hg1 hu1 hd1 hi1, run_loadVar_row w g2 u2 t2 c2 (0, 0) d2 hg2 hu2 hd2 hi2, run_loadVar_row w g3 u3 t3 c3 (0, 0) d3 hg3 hu3 hd3 hi3]

def zs10 : Array Value := #[.string ⟨#[]⟩, .string ⟨#[]⟩, .string ⟨#[]⟩, .string ⟨#[]⟩, .string ⟨#[]⟩, .string ⟨#[]⟩, .string ⟨#[]⟩, .string ⟨#[]⟩, .string ⟨#[]⟩, .string ⟨#[]⟩]
def zi10 : Array Value := #[.int .i64 0, .int .i64 0, .int .i64 0, .int .i64 0, .int .i64 0, .int .i64 0, .int .i64 0, .int .i64 0, .int .i64 0, .int .i64 0]
theorem zs10_cell (i : Nat) (hi : i < 10) : zs10[i]? = some (.string ⟨#[]⟩) := by
  have e : zs10 = Array.ofFn (fun _ : Fin 10 => Value.string ⟨#[]⟩) := by rfl
  rw [e]; simp [hi]
theorem zi10_cell (i : Nat) (hi : i < 10) : zi10[i]? = some (.int .i64 0) := by
  have e : zi10 = Array.ofFn (fun _ : Fin 10 => Value.int .i64 0) := by rfl
  rw [e]; simp [hi]

/-- k of the ten are read. -/
structure Rd (w wr : World) (b : Nat) (s : St) (k : Nat) : Prop where
  below : Below w.heap.size w wr
  fs : Fs wr b s
  f : wr.rowIs w.heap.size 22 10 (fun i => .string (if i < k then s.F i else ⟨#[]⟩))
  p : wr.rowIs (w.heap.size + 1) 22 10 (fun i => .string (if i < k then s.P i else ⟨#[]⟩))
  c : wr.rowIs (w.heap.size + 1 + 1) 23 10 (fun i => .int .i64 (if i < k then s.C i else 0))
  l : wr.rowIs (w.heap.size + 1 + 1 + 1) 23 10 (fun i => .int .i64 (if i < k then s.L i else 0))

theorem rd_start {w : World} {b : Nat} {s : St} (h : Fs w b s) : Rd w ((((w.alloc (.cells zs10 22)).alloc (.cells zs10 22)).alloc (.cells zi10 23)).alloc (.cells zi10 23)) b s 0 := by
  have k1 := World.rowIs_alloc w zs10 22 (fun _ => .string ⟨#[]⟩) zs10_cell
  have k2 := World.rowIs_alloc (w.alloc (.cells zs10 22)) zs10 22 (fun _ => .string ⟨#[]⟩) zs10_cell
  have k3 := World.rowIs_alloc ((w.alloc (.cells zs10 22)).alloc (.cells zs10 22)) zi10 23 (fun _ => .int .i64 0) zi10_cell
  have k4 := World.rowIs_alloc (((w.alloc (.cells zs10 22)).alloc (.cells zs10 22)).alloc (.cells zi10 23)) zi10 23 (fun _ => .int .i64 0) zi10_cell
  have e1 : (w.alloc (.cells zs10 22)).heap.size = w.heap.size + 1 := by simp
  have e2 : ((w.alloc (.cells zs10 22)).alloc (.cells zs10 22)).heap.size = w.heap.size + 1 + 1 := by simp
  have e3 : (((w.alloc (.cells zs10 22)).alloc (.cells zs10 22)).alloc (.cells zi10 23)).heap.size = w.heap.size + 1 + 1 + 1 := by simp
  rw [e1] at k2
  rw [e2] at k3
  rw [e3] at k4
  have hb := boxes_below w (.cells zs10 22) (.cells zs10 22) (.cells zi10 23) (.cells zi10 23)
  exact ⟨hb, h.below hb h.lt, (((k1.alloc _).alloc _).alloc _).congr fun i _ => by simp, ((k2.alloc _).alloc _).congr fun i _ => by simp, (k3.alloc _).congr fun i _ => by simp, k4.congr fun i _ => by simp⟩

theorem if_step {α : Type} (g : Nat → α) (z : α) (k i : Nat) (c : α → Value) : (if i = k then c (g k) else c (if i < k then g i else z)) = c (if i < k + 1 then g i else z) := by
  by_cases e : i = k
  · subst e; rw [if_pos rfl, if_pos (by omega)]
  · rw [if_neg e]
    by_cases h : i < k
    · rw [if_pos h, if_pos (by omega)]
    · rw [if_neg h, if_neg (by omega)]

theorem rd_step {w wr : World} {b k : Nat} {s : St} (h : Rd w wr b s k) (hb : b < w.heap.size) :
    Rd w ((((wr.setCell ⟨w.heap.size, k, none⟩ (.string (s.F k))).setCell ⟨w.heap.size + 1, k, none⟩ (.string (s.P k))).setCell ⟨w.heap.size + 1 + 1, k, none⟩ (.int .i64 (s.C k))).setCell ⟨w.heap.size + 1 + 1 + 1, k, none⟩ (.int .i64 (s.L k))) b s (k + 1) := by
  have n1 : w.heap.size ≠ w.heap.size + 1 := by omega
  have hbl : Below w.heap.size wr ((((wr.setCell ⟨w.heap.size, k, none⟩ (.string (s.F k))).setCell ⟨w.heap.size + 1, k, none⟩ (.string (s.P k))).setCell ⟨w.heap.size + 1 + 1, k, none⟩ (.int .i64 (s.C k))).setCell ⟨w.heap.size + 1 + 1 + 1, k, none⟩ (.int .i64 (s.L k))) :=
    ((((Below.refl w.heap.size wr).setCell (p := ⟨w.heap.size, k, none⟩) (Nat.le_refl _) _).setCell (p := ⟨w.heap.size + 1, k, none⟩) (by show w.heap.size ≤ w.heap.size + 1; omega) _).setCell (p := ⟨w.heap.size + 1 + 1, k, none⟩) (by show w.heap.size ≤ w.heap.size + 1 + 1; omega) _).setCell (p := ⟨w.heap.size + 1 + 1 + 1, k, none⟩) (by show w.heap.size ≤ w.heap.size + 1 + 1 + 1; omega) _
  refine ⟨h.below.trans hbl, h.fs.below hbl hb, ?_, ?_, ?_, ?_⟩
  · exact ((((h.f.set k _).setOther (a := ⟨w.heap.size + 1, k, none⟩) (by show w.heap.size ≠ w.heap.size + 1; omega) _).setOther (a := ⟨w.heap.size + 1 + 1, k, none⟩) (by show w.heap.size ≠ w.heap.size + 1 + 1; omega) _).setOther (a := ⟨w.heap.size + 1 + 1 + 1, k, none⟩) (by show w.heap.size ≠ w.heap.size + 1 + 1 + 1; omega) _).congr fun i _ => if_step s.F ⟨#[]⟩ k i .string
  · exact ((((h.p.setOther (a := ⟨w.heap.size, k, none⟩) (by show w.heap.size + 1 ≠ w.heap.size; omega) _).set k _).setOther (a := ⟨w.heap.size + 1 + 1, k, none⟩) (by show w.heap.size + 1 ≠ w.heap.size + 1 + 1; omega) _).setOther (a := ⟨w.heap.size + 1 + 1 + 1, k, none⟩) (by show w.heap.size + 1 ≠ w.heap.size + 1 + 1 + 1; omega) _).congr fun i _ => if_step s.P ⟨#[]⟩ k i .string
  · exact ((((h.c.setOther (a := ⟨w.heap.size, k, none⟩) (by show w.heap.size + 1 + 1 ≠ w.heap.size; omega) _).setOther (a := ⟨w.heap.size + 1, k, none⟩) (by show w.heap.size + 1 + 1 ≠ w.heap.size + 1; omega) _).set k _).setOther (a := ⟨w.heap.size + 1 + 1 + 1, k, none⟩) (by show w.heap.size + 1 + 1 ≠ w.heap.size + 1 + 1 + 1; omega) _).congr fun i _ => if_step s.C 0 k i (.int .i64)
  · exact ((((h.l.setOther (a := ⟨w.heap.size, k, none⟩) (by show w.heap.size + 1 + 1 + 1 ≠ w.heap.size; omega) _).setOther (a := ⟨w.heap.size + 1, k, none⟩) (by show w.heap.size + 1 + 1 + 1 ≠ w.heap.size + 1; omega) _).setOther (a := ⟨w.heap.size + 1 + 1, k, none⟩) (by show w.heap.size + 1 + 1 + 1 ≠ w.heap.size + 1 + 1; omega) _).set k _).congr fun i _ => if_step s.L 0 k i (.int .i64)

theorem all_one {c : Array Value} {n : Nat} {f : Nat → Value} (hs : c.size = n) (hc : ∀ i, i < n → c[i]? = some (f i)) (hf : ∀ i, (f i).oneCell' = true) : c.all (·.oneCell') = true := by
  refine Array.all_eq_true_iff_forall_mem.2 (fun v hv => ?_)
  obtain ⟨j, hj⟩ := List.mem_iff_getElem?.1 (by simpa using hv : v ∈ c.toList)
  rw [Array.getElem?_toList] at hj
  have hlt : j < c.size := by
    rcases Nat.lt_or_ge j c.size with h | h
    · exact h
    · rw [Array.getElem?_eq_none h] at hj; cases hj
  rw [hc j (by omega)] at hj
  cases hj
  exact hf j

set_option maxHeartbeats 800000 in
set_option maxRecDepth 100000 in
theorem read_any (b : Nat) (s : St) (w : World) (h : Fs w b s) :
    Calls Try.prog 7 #[.pointer (some ⟨b, 0, none⟩)] w fun e w' => ∃ cF cP cC cL : Array Value, e = .returned (.tuple #[.agg cF, .agg cP, .agg cC, .agg cL]) ∧ Strs cF s.F ∧ Strs cP s.P ∧ Ints cC s.C ∧ Ints cL s.L ∧ Below w.heap.size w w' := by
  have hR := rd_start h
  have HR : Hid (Rd w _ b s 0) := hR
  have hlt := h.lt
  clear hR h
  go_enter Try.func7, Try.ntmps7
  go_wp2
  go_loopw [6] (fun v wr => ∃ k : Nat, k ≤ 10 ∧ v = .int .i64 k ∧ Rd w wr b s k) (fun v _ => 10 - (intOf v).toNat)
  case atStart => exact ⟨0, by omega, rfl, HR.out⟩
  case round =>
    obtain ⟨k, hk, rfl, hM⟩ := hrel
    clear HR
    by_cases hk10 : k < 10
    · have d0 := hM.fs.c0 hk10
      have d1 := hM.fs.c1 hk10
      have d2 := hM.fs.c2 hk10
      have d3 := hM.fs.c3 hk10
      have e0 := hM.f.cell hk10
      have e1 := hM.p.cell hk10
      have e2 := hM.c.cell hk10
      have e3 := hM.l.cell hk10
      have f0 := hM.f.frozen k
      have f1 := hM.p.frozen k
      have f2 := hM.c.frozen k
      have f3 := hM.l.frozen k
      have nb0 : ¬ b = w.heap.size := by omega
      have nb1 : ¬ b = w.heap.size + 1 := by omega
      have nb2 : ¬ b = w.heap.size + 1 + 1 := by omega
      have nb3 : ¬ b = w.heap.size + 1 + 1 + 1 := by omega
      go_wp2
      go_roundw
      case rel => exact ⟨k + 1, by omega, by go_num, rd_step hM hlt⟩
      case measure => simp [intOf]; omega
    · obtain rfl : k = 10 := by omega
      obtain ⟨c0, g0, s0, v0⟩ := hM.f
      obtain ⟨c1, g1, s1, v1⟩ := hM.p
      obtain ⟨c2, g2, s2, v2⟩ := hM.c
      obtain ⟨c3, g3, s3, v3⟩ := hM.l
      have o0 := all_one s0 v0 (fun _ => rfl)
      have o1 := all_one s1 v1 (fun _ => rfl)
      have o2 := all_one s2 v2 (fun _ => rfl)
      have o3 := all_one s3 v3 (fun _ => rfl)
      have i0 : (Try.prog.info? 22).map (·.size) = some c0.size := by rw [s0]; exact Try.size22
      have i1 : (Try.prog.info? 22).map (·.size) = some c1.size := by rw [s1]; exact Try.size22
      have i2 : (Try.prog.info? 23).map (·.size) = some c2.size := by rw [s2]; exact Try.size23
      have i3 : (Try.prog.info? 23).map (·.size) = some c3.size := by rw [s3]; exact Try.size23
      have G0 : ∀ w', (∃ n, w' = wr.drewN n) → w'.heap[w.heap.size]? = some (.cells c0 22 (0, 0)) := by rintro w' ⟨n, rfl⟩; exact g0
      have G1 : ∀ w', (∃ n, w' = wr.drewN n) → w'.heap[w.heap.size + 1]? = some (.cells c1 22 (0, 0)) := by rintro w' ⟨n, rfl⟩; exact g1
      have G2 : ∀ w', (∃ n, w' = wr.drewN n) → w'.heap[w.heap.size + 1 + 1]? = some (.cells c2 23 (0, 0)) := by rintro w' ⟨n, rfl⟩; exact g2
      have G3 : ∀ w', (∃ n, w' = wr.drewN n) → w'.heap[w.heap.size + 1 + 1 + 1]? = some (.cells c3 23 (0, 0)) := by rintro w' ⟨n, rfl⟩; exact g3
      clear hk hk10
      go_wp2_with fail
      refine wp_region_quiet_lit (by kernel_rfl) (by kernel_rfl) ?_
      refine wpQuiet_step (fun K hK => quiet_load rfl 22 (.tmp 2) rfl w.heap.size rfl 22 c0 (0, 0) _ G0 Try.underlying22 rfl i0 (hK _ ?_))
      clear hK K
      refine wpQuiet_step (fun K hK => quiet_load rfl 22 (.tmp 3) rfl (w.heap.size + 1) rfl 22 c1 (0, 0) _ G1 Try.underlying22 rfl i1 (hK _ ?_))
      clear hK K
      refine wpQuiet_step (fun K hK => quiet_load rfl 23 (.tmp 4) rfl (w.heap.size + 1 + 1) rfl 23 c2 (0, 0) _ G2 Try.underlying23 rfl i2 (hK _ ?_))
      clear hK K
      refine wpQuiet_step (fun K hK => quiet_load rfl 23 (.tmp 5) rfl (w.heap.size + 1 + 1 + 1) rfl 23 c3 (0, 0) _ G3 Try.underlying23 rfl i3 (hK _ ?_))
      clear hK K
      refine wpQuiet_step (fun K hK => quiet_store rfl 22 (.tmp 2) (.tmp 46) rfl w.heap.size c0 rfl rfl 22 G0 i0 o0 (hK _ ?_))
      clear hK K
      refine wpQuiet_step (fun K hK => quiet_store rfl 22 (.tmp 3) (.tmp 47) rfl (w.heap.size + 1) c1 rfl rfl 22 G1 i1 o1 (hK _ ?_))
      clear hK K
      refine wpQuiet_step (fun K hK => quiet_store rfl 23 (.tmp 4) (.tmp 48) rfl (w.heap.size + 1 + 1) c2 rfl rfl 23 G2 i2 o2 (hK _ ?_))
      clear hK K
      refine wpQuiet_step (fun K hK => quiet_store rfl 23 (.tmp 5) (.tmp 49) rfl (w.heap.size + 1 + 1 + 1) c3 rfl rfl 23 G3 i3 o3 (hK _ ?_))
      clear hK K
      refine wpQuiet_nil ?_
      rintro w' ⟨n, rfl⟩
      go_wp2_with fail
      refine bodyPost_ret (v := .tuple #[.agg c0, .agg c1, .agg c2, .agg c3]) (results_cells4 Try.results7 _ _ w.heap.size (w.heap.size + 1) (w.heap.size + 1 + 1) (w.heap.size + 1 + 1 + 1) 22 22 23 23 c0 c1 c2 c3 _ _ _ _ rfl rfl rfl rfl g0 g1 g2 g3 Try.underlying22 Try.underlying22 Try.underlying23 Try.underlying23 rfl rfl rfl rfl i0 i1 i2 i3) rfl ?_
      exact ⟨c0, c1, c2, c3, rfl, ⟨s0, fun i hi => by rw [v0 i hi, if_pos hi]⟩, ⟨s1, fun i hi => by rw [v1 i hi, if_pos hi]⟩, ⟨s2, fun i hi => by rw [v2 i hi, if_pos hi]⟩, ⟨s3, fun i hi => by rw [v3 i hi, if_pos hi]⟩, hM.below.os, hM.below.tape, hM.below.output, hM.below.size, hM.below.block⟩
end Go.Proofs.Qxb6617664a
