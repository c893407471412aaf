/- THE WALK OF ZZMake. -/
import Derived.Test.Qxb6617664aNote
import Derived.Deep.WholeRow
namespace Go.Proofs.Qxb6617664a
open Go.RowKit

theorem Try.size33 : (Try.prog.info? 33).map (·.size) = some 40 := by kernel_rfl

theorem St.one (s : St) (j : Nat) : (s.cell j).oneCell' = true := by
  unfold St.cell
  split
  · rfl
  · split
    · rfl
    · split <;> rfl

def St0 : St := ⟨fun _ => ⟨#[]⟩, fun _ => ⟨#[]⟩, fun _ => 0, fun _ => 0⟩
def z40 : Array Value := #[.string ⟨#[]⟩, .string ⟨#[]⟩, .int .i64 0, .int .i64 0, .string ⟨#[]⟩, .string ⟨#[]⟩, .int .i64 0, .int .i64 0, .string ⟨#[]⟩, .string ⟨#[]⟩, .int .i64 0, .int .i64 0, .string ⟨#[]⟩, .string ⟨#[]⟩, .int .i64 0, .int .i64 0, .string ⟨#[]⟩, .string ⟨#[]⟩, .int .i64 0, .int .i64 0, .string ⟨#[]⟩, .string ⟨#[]⟩, .int .i64 0, .int .i64 0, .string ⟨#[]⟩, .string ⟨#[]⟩, .int .i64 0, .int .i64 0, .string ⟨#[]⟩, .string ⟨#[]⟩, .int .i64 0, .int .i64 0, .string ⟨#[]⟩, .string ⟨#[]⟩, .int .i64 0, .int .i64 0, .string ⟨#[]⟩, .string ⟨#[]⟩, .int .i64 0, .int .i64 0]
theorem z40_cell (i : Nat) (hi : i < 40) : z40[i]? = some (St0.cell i) := by
  have e : z40 = Array.ofFn (fun i : Fin 40 => St0.cell i) := by rfl
  rw [e]; simp [hi]

/-- k of the ten are laid. -/
def mk (F P : Nat → ByteArray) (C L : Nat → Int) (k : Nat) : St := ⟨fun i => if i < k then F i else ⟨#[]⟩, fun i => if i < k then P i else ⟨#[]⟩, fun i => if i < k then C i else 0, fun i => if i < k then L i else 0⟩

theorem upd_if {α : Type} (g : Nat → α) (z : α) (k : Nat) : upd (fun i => if i < k then g i else z) k (g k) = fun i => if i < k + 1 then g i else z := by
  funext i
  unfold upd
  by_cases e : i = k
  · subst e; rw [if_pos rfl, if_pos (by omega)]
  · rw [if_neg e]
    show (if i < k then g i else z) = _
    by_cases h : i < k
    · rw [if_pos h, if_pos (by omega)]
    · rw [if_neg h, if_neg (by omega)]

theorem mk_step {w : World} {b k : Nat} {F P : Nat → ByteArray} {C L : Nat → Int} (h : Fs w b (mk F P C L k)) :
    Fs ((((w.setCell ⟨b, k * 4, none⟩ (.string (F k))).setCell ⟨b, k * 4 + 1, none⟩ (.string (P k))).setCell ⟨b, k * 4 + 2, none⟩ (.int .i64 (C k))).setCell ⟨b, k * 4 + 3, none⟩ (.int .i64 (L k))) b (mk F P C L (k + 1)) := by
  have := (((h.setF k (F k)).setP k (P k)).setC k (C k)).setL k (L k)
  have e : (mk F P C L (k + 1)) = ⟨upd (mk F P C L k).F k (F k), upd (mk F P C L k).P k (P k), upd (mk F P C L k).C k (C k), upd (mk F P C L k).L k (L k)⟩ := by
    simp only [mk, upd_if]
  rw [e]
  exact this

structure Made (w wr : World) (F P : Nat → ByteArray) (C L : Nat → Int) (k : Nat) : Prop where
  below : Below w.heap.size w wr
  boxes : Boxes wr w.heap.size F P C L
  res : Fs wr (w.heap.size + 1 + 1 + 1 + 1) St0
  fs : Fs wr (w.heap.size + 1 + 1 + 1 + 1 + 1) (mk F P C L k)

theorem made_start {w W : World} {F P : Nat → ByteArray} {C L : Nat → Int} (hbl : Below w.heap.size w W) (hbx : Boxes W w.heap.size F P C L) (hs : W.heap.size = w.heap.size + 1 + 1 + 1 + 1) :
    Made w ((W.alloc (.cells z40 33)).alloc (.cells z40 33)) F P C L 0 := by
  have k1 := World.rowIs_alloc W z40 33 St0.cell z40_cell
  have k2 := World.rowIs_alloc (W.alloc (.cells z40 33)) z40 33 St0.cell z40_cell
  have e1 : (W.alloc (.cells z40 33)).heap.size = w.heap.size + 1 + 1 + 1 + 1 + 1 := by simp [hs]
  rw [hs] at k1
  rw [e1] at k2
  have hb2 : Below W.heap.size W ((W.alloc (.cells z40 33)).alloc (.cells z40 33)) := ((Below.refl _ _).alloc (Nat.le_refl _) _).alloc (by simp) _
  exact ⟨hbl.trans (hb2.mono hbl.size), hbx.below hb2 (by omega), k1.alloc _, k2⟩

theorem boxes_set {w : World} {B b i : Nat} {F P : Nat → ByteArray} {C L : Nat → Int} {v : Value} (h : Boxes w B F P C L) (hb : B + 1 + 1 + 1 < b) : Boxes (w.setCell ⟨b, i, none⟩ v) B F P C L :=
  h.below (N := b) ((Below.refl b w).setCell (Nat.le_refl b) v) (by omega)

theorem made_step {w wr : World} {F P : Nat → ByteArray} {C L : Nat → Int} {k : Nat} (h : Made w wr F P C L k) :
    Made w ((((wr.setCell ⟨w.heap.size + 1 + 1 + 1 + 1 + 1, k * 4, none⟩ (.string (F k))).setCell ⟨w.heap.size + 1 + 1 + 1 + 1 + 1, k * 4 + 1, none⟩ (.string (P k))).setCell ⟨w.heap.size + 1 + 1 + 1 + 1 + 1, k * 4 + 2, none⟩ (.int .i64 (C k))).setCell ⟨w.heap.size + 1 + 1 + 1 + 1 + 1, k * 4 + 3, none⟩ (.int .i64 (L k))) F P C L (k + 1) := by
  have hb : Below (w.heap.size + 1 + 1 + 1 + 1 + 1) wr ((((wr.setCell ⟨w.heap.size + 1 + 1 + 1 + 1 + 1, k * 4, none⟩ (.string (F k))).setCell ⟨w.heap.size + 1 + 1 + 1 + 1 + 1, k * 4 + 1, none⟩ (.string (P k))).setCell ⟨w.heap.size + 1 + 1 + 1 + 1 + 1, k * 4 + 2, none⟩ (.int .i64 (C k))).setCell ⟨w.heap.size + 1 + 1 + 1 + 1 + 1, k * 4 + 3, none⟩ (.int .i64 (L k))) :=
    below_set (below_set (below_set (below_set (Below.refl _ _))))
  exact ⟨h.below.trans (hb.mono (by omega)), h.boxes.below hb (by omega), h.res.below hb (by omega), mk_step h.fs⟩

theorem mk_full (F P : Nat → ByteArray) (C L : Nat → Int) (j : Nat) (hj : j < 40) : (mk F P C L 10).cell j = (⟨F, P, C, L⟩ : St).cell j := by
  have : j / 4 < 10 := by omega
  unfold St.cell mk
  simp only [this, if_true]

theorem below_row {B g : Nat} {w0 w : World} {cs : Array Value} (hb : Below B w0 w) (hBg : B ≤ g) : Below B w0 (w.setRow g cs) :=
  hb.trans ⟨rfl, rfl, rfl, by simp [World.setRow], fun k hk => setRow_other w g k cs (by omega)⟩

set_option maxHeartbeats 800000 in
set_option maxRecDepth 100000 in
theorem make_any (cF cP cC cL : Array Value) (F P : Nat → ByteArray) (C L : Nat → Int) (hF : Strs cF F) (hP : Strs cP P) (hC : Ints cC C) (hL : Ints cL L) (w : World) :
    Calls Try.prog 5 #[.agg cF, .agg cP, .agg cC, .agg cL] w fun e w' => ∃ c : Array Value, e = .returned (.agg c) ∧ c.size = 40 ∧ (∀ j, j < 40 → c[j]? = some ((⟨F, P, C, L⟩ : St).cell j)) ∧ Below w.heap.size w w' := by
  have hBx := boxes_made w hF hP hC hL
  have hBl := boxes_below w (.cells cF 22) (.cells cP 22) (.cells cC 23) (.cells cL 23)
  have hS : ((((w.alloc (.cells cF 22)).alloc (.cells cP 22)).alloc (.cells cC 23)).alloc (.cells cL 23)).heap.size = w.heap.size + 1 + 1 + 1 + 1 := by simp
  clear hF hP hC hL
  have hM := made_start hBl hBx hS
  have HM : Hid (Made w _ F P C L 0) := hM
  clear hBx hBl hS hM
  go_enter Try.func5, Try.ntmps5
  go_wp2
  go_loopw [10] (fun v wr => ∃ k : Nat, k ≤ 10 ∧ v = .int .i64 k ∧ Made w wr F P C L k) (fun v _ => 10 - (intOf v).toNat)
  case atStart => exact ⟨0, by omega, rfl, HM.out⟩
  case round =>
    obtain ⟨k, hk, rfl, hM⟩ := hrel
    clear HM
    by_cases hlt : k < 10
    · have b0 := hM.boxes.f k hlt
      have b1 := hM.boxes.p k hlt
      have b2 := hM.boxes.c k hlt
      have b3 := hM.boxes.l k hlt
      have d0 := hM.fs.c0 hlt
      have d1 := hM.fs.c1 hlt
      have d2 := hM.fs.c2 hlt
      have d3 := hM.fs.c3 hlt
      have e0 := hM.fs.fz (k * 4)
      have e1 := hM.fs.fz (k * 4 + 1)
      have e2 := hM.fs.fz (k * 4 + 2)
      have e3 := hM.fs.fz (k * 4 + 3)
      go_wp2
      go_roundw
      case rel => exact ⟨k + 1, by omega, by go_num, made_step hM⟩
      case measure => simp [intOf]; omega
    · obtain rfl : k = 10 := by omega
      obtain ⟨c, hc1, hc2, hc3⟩ := hM.fs
      obtain ⟨o, ho1, ho2, ho3⟩ := hM.res
      have hone : c.all (·.oneCell') = true := by
        refine Array.all_eq_true_iff_forall_mem.2 (fun v hv => ?_)
        obtain ⟨j, hj⟩ := List.mem_iff_getElem?.1 (by simpa using hv : v ∈ c.toList)
        rw [Array.getElem?_toList] at hj
        have hlt : j < c.size := by
          rcases Nat.lt_or_ge j c.size with h | h
          · exact h
          · rw [Array.getElem?_eq_none h] at hj; cases hj
        rw [hc3 j (by omega)] at hj
        cases hj
        exact St.one _ _
      clear hlt hk
      go_wp2_with (first
        | refine wpList_load_row rfl 33 (.tmp 9) rfl _ rfl 33 c (0, 0) _ hc1 Try.underlying33 rfl (by rw [hc2]; exact Try.size33) ?_
        | refine wpList_store_row rfl 33 (.tmp 8) (.tmp 42) rfl (w.heap.size + 1 + 1 + 1 + 1) c rfl rfl 33 o ho1 (by rw [hc2]; exact Try.size33) (by omega) hone ?_)
      refine bodyPost_ret (v := .agg c) (results_cell_row Try.results5 _ _ (w.heap.size + 1 + 1 + 1 + 1) 33 c (0, 0) _ rfl (setRow_heap wr _ o c 33 (0, 0) ho1) Try.underlying33 rfl (by rw [hc2]; exact Try.size33)) rfl ?_
      exact ⟨c, rfl, hc2, fun j hj => by rw [hc3 j hj, mk_full F P C L j hj], below_row hM.below (by omega)⟩
end Go.Proofs.Qxb6617664a
