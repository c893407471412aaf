/- WHAT COMES IN: arrays by value, a slice of structs of four cells; the walk of zzBytes. -/
import Derived.Test.Qxb6617664aChecked
import Derived.WalkKit
import Derived.Deep.OwnRows
namespace Go.Proofs.Qxb6617664a
open Go.RowKit

/-- An array of ten strings; of ten ints. -/
structure Strs (c : Array Value) (F : Nat → ByteArray) : Prop where
  size : c.size = 10
  cell : ∀ i, i < 10 → c[i]? = some (.string (F i))
structure Ints (c : Array Value) (F : Nat → Int) : Prop where
  size : c.size = 10
  cell : ∀ i, i < 10 → c[i]? = some (.int .i64 (F i))

/-- The slice of places. -/
structure Places (w : World) (a : Option Addr) (pb po n : Nat) (Ru Le : Nat → Int) (Fi Pr : Nat → ByteArray) : Prop where
  top : 0 < n → a = some ⟨pb, po, none⟩
  c0 : ∀ j, j < n → w.cell? ⟨pb, po + j * 4, none⟩ = some (.int .i64 (Ru j))
  c1 : ∀ j, j < n → w.cell? ⟨pb, po + j * 4 + 1, none⟩ = some (.int .i64 (Le j))
  c2 : ∀ j, j < n → w.cell? ⟨pb, po + j * 4 + 2, none⟩ = some (.string (Fi j))
  c3 : ∀ j, j < n → w.cell? ⟨pb, po + j * 4 + 3, none⟩ = some (.string (Pr j))

theorem Places.below {w w' : World} {a : Option Addr} {pb po n : Nat} {Ru Le : Nat → Int} {Fi Pr : Nat → ByteArray} (h : Places w a pb po n Ru Le Fi Pr) (hb : Below w.heap.size w w') : Places w' a pb po n Ru Le Fi Pr :=
  ⟨h.top, fun j hj => by rw [hb.cell (p := ⟨pb, po + j * 4, none⟩) (World.block_lt_of_cell? _ _ (h.c0 j hj))]; exact h.c0 j hj,
    fun j hj => by rw [hb.cell (p := ⟨pb, po + j * 4 + 1, none⟩) (World.block_lt_of_cell? _ _ (h.c1 j hj))]; exact h.c1 j hj,
    fun j hj => by rw [hb.cell (p := ⟨pb, po + j * 4 + 2, none⟩) (World.block_lt_of_cell? _ _ (h.c2 j hj))]; exact h.c2 j hj,
    fun j hj => by rw [hb.cell (p := ⟨pb, po + j * 4 + 3, none⟩) (World.block_lt_of_cell? _ _ (h.c3 j hj))]; exact h.c3 j hj⟩

/-- The four arrays, boxed from block B on. -/
structure Boxes (W : World) (B : Nat) (F P : Nat → ByteArray) (C L : Nat → Int) : Prop where
  f : ∀ i, i < 10 → W.cell? ⟨B, i, none⟩ = some (.string (F i))
  p : ∀ i, i < 10 → W.cell? ⟨B + 1, i, none⟩ = some (.string (P i))
  c : ∀ i, i < 10 → W.cell? ⟨B + 1 + 1, i, none⟩ = some (.int .i64 (C i))
  l : ∀ i, i < 10 → W.cell? ⟨B + 1 + 1 + 1, i, none⟩ = some (.int .i64 (L i))

theorem Boxes.below {B N : Nat} {W W' : World} {F P : Nat → ByteArray} {C L : Nat → Int} (h : Boxes W B F P C L) (hb : Below N W W') (hN : B + 3 < N) : Boxes W' B F P C L :=
  ⟨fun i hi => by rw [hb.cell (p := ⟨B, i, none⟩) (by show B < N; omega)]; exact h.f i hi, fun i hi => by rw [hb.cell (p := ⟨B + 1, i, none⟩) (by show B + 1 < N; omega)]; exact h.p i hi,
    fun i hi => by rw [hb.cell (p := ⟨B + 1 + 1, i, none⟩) (by show B + 1 + 1 < N; omega)]; exact h.c i hi, fun i hi => by rw [hb.cell (p := ⟨B + 1 + 1 + 1, i, none⟩) (by show B + 1 + 1 + 1 < N; omega)]; exact h.l i hi⟩

theorem boxes_made (w : World) {cF cP cC cL : Array Value} {F P : Nat → ByteArray} {C L : Nat → Int} (hF : Strs cF F) (hP : Strs cP P) (hC : Ints cC C) (hL : Ints cL L) :
    Boxes ((((w.alloc (.cells cF 22)).alloc (.cells cP 22)).alloc (.cells cC 23)).alloc (.cells cL 23)) w.heap.size F P C L := by
  have k1 := World.rowIs_alloc w cF 22 (fun i => .string (F i)) (fun i hi => hF.cell i (by have := hF.size; omega))
  have k2 := World.rowIs_alloc (w.alloc (.cells cF 22)) cP 22 (fun i => .string (P i)) (fun i hi => hP.cell i (by have := hP.size; omega))
  have k3 := World.rowIs_alloc ((w.alloc (.cells cF 22)).alloc (.cells cP 22)) cC 23 (fun i => .int .i64 (C i)) (fun i hi => hC.cell i (by have := hC.size; omega))
  have k4 := World.rowIs_alloc (((w.alloc (.cells cF 22)).alloc (.cells cP 22)).alloc (.cells cC 23)) cL 23 (fun i => .int .i64 (L i)) (fun i hi => hL.cell i (by have := hL.size; omega))
  have e1 : (w.alloc (.cells cF 22)).heap.size = w.heap.size + 1 := by simp
  have e2 : ((w.alloc (.cells cF 22)).alloc (.cells cP 22)).heap.size = w.heap.size + 1 + 1 := by simp
  have e3 : (((w.alloc (.cells cF 22)).alloc (.cells cP 22)).alloc (.cells cC 23)).heap.size = w.heap.size + 1 + 1 + 1 := by simp
  rw [e1] at k2
  rw [e2] at k3
  rw [e3] at k4
  exact ⟨fun i hi => (((k1.alloc _).alloc _).alloc _).cell (by have := hF.size; omega), fun i hi => ((k2.alloc _).alloc _).cell (by have := hP.size; omega), fun i hi => (k3.alloc _).cell (by have := hC.size; omega), fun i hi => k4.cell (by have := hL.size; omega)⟩

theorem boxes_below (w : World) (a b c d : Obj) : Below w.heap.size w ((((w.alloc a).alloc b).alloc c).alloc d) :=
  ((((Below.refl _ _).alloc (Nat.le_refl _) _).alloc (by simp) _).alloc (by simp; omega) _).alloc (by simp; omega) _

/-- All lengths are small. -/
def Small (F P : Nat → ByteArray) (n : Nat) (Fi Pr : Nat → ByteArray) : Prop :=
  (∀ i, i < 10 → (F i).size ≤ 1048576 ∧ (P i).size ≤ 1048576) ∧ n ≤ 1048576 ∧ ∀ j, j < n → (Fi j).size ≤ 1048576 ∧ (Pr j).size ≤ 1048576

/-- It returns a bool of which p holds; nothing that was there turns. -/
def Says (p : Bool → Prop) (w : World) (e : Ending) (w' : World) : Prop := ∃ b, e = .returned (.bool b) ∧ Below w.heap.size w w' ∧ p b

/-- A counter and a sum within bounds, and what has been seen so far. -/
def Upto (top : Nat) (q : Nat → Prop) (z v : Value) : Prop := ∃ (k : Nat) (s : Int), k ≤ top ∧ v = .int .i64 k ∧ z = .int .i64 s ∧ 0 ≤ s ∧ s ≤ 1048576 ∧ ∀ i, i < k → q i

theorem Upto.step {q : Nat → Prop} {k : Nat} (h : ∀ i, i < k → q i) (hk : q k) : ∀ i, i < k + 1 → q i := fun i hi => by
  by_cases e : i = k
  · subst e; exact hk
  · exact h i (by omega)

set_option maxHeartbeats 1600000 in
set_option maxRecDepth 100000 in
theorem zzBytes_any (cF cP cC cL : Array Value) (F P : Nat → ByteArray) (C L : Nat → Int) (hF : Strs cF F) (hP : Strs cP P) (hC : Ints cC C) (hL : Ints cL L)
    (a : Option Addr) (pb po n cap : Nat) (Ru Le : Nat → Int) (Fi Pr : Nat → ByteArray) (w : World) (hIn : Places w a pb po n Ru Le Fi Pr) (hn : n ≤ maxLen) :
    Calls Try.prog 4 #[.agg cF, .agg cP, .agg cC, .agg cL, .slice a n cap] w fun e w' => Says (fun b => b = true → Small F P n Fi Pr) w e w' := by
  have hBx := boxes_made w hF hP hC hL
  have hBl := boxes_below w (.cells cF 22) (.cells cP 22) (.cells cC 23) (.cells cL 23)
  unfold maxLen at hn
  clear hF hP hC hL
  go_enter Try.func4, Try.ntmps4
  go_wp2
  generalize (((w.alloc (.cells cF 22)).alloc (.cells cP 22)).alloc (.cells cC 23)).alloc (.cells cL 23) = W at *
  have hIn' := hIn.below hBl
  clear hIn
  go_loop [11, 12] (fun z v => Upto 10 (fun i => (F i).size ≤ 1048576) z v) (fun _ v => 10 - (intOf v).toNat)
  case atStart => exact ⟨0, 0, by omega, rfl, rfl, by omega, by omega, fun i hi => absurd hi (Nat.not_lt_zero _)⟩
  case round =>
    obtain ⟨k, s, hk, rfl, rfl, h0, h1, hq⟩ := hrel
    have HQ : Hid (∀ i, i < k → (F i).size ≤ 1048576) := hq
    clear hq
    by_cases hlt : k < 10
    · have c0 := hBx.f k hlt
      go_wp2
      all_goals first
        | (go_round
           case rel => exact ⟨k + 1, _, by omega, by go_num, rfl, by omega, by omega, Upto.step HQ.out (by omega)⟩
           case measure => simp [intOf]; omega)
        | (go_ret; exact ⟨_, rfl, hBl, fun h => by cases h⟩)
    · obtain rfl : k = 10 := by omega
      clear hlt hk
      go_wp2
      go_loop [11, 13] (fun z v => Upto 10 (fun i => (P i).size ≤ 1048576) z v) (fun _ v => 10 - (intOf v).toNat)
      case atStart => exact ⟨0, s, by omega, rfl, rfl, h0, h1, fun i hi => absurd hi (Nat.not_lt_zero _)⟩
      case round =>
        obtain ⟨k, s, hk, rfl, rfl, h0, h1, hq⟩ := hrel
        have HQ2 : Hid (∀ i, i < k → (P i).size ≤ 1048576) := hq
        clear hq
        by_cases hlt : k < 10
        · have c0 := hBx.p k hlt
          go_wp2
          all_goals first
            | (go_round
               case rel => exact ⟨k + 1, _, by omega, by go_num, rfl, by omega, by omega, Upto.step HQ2.out (by omega)⟩
               case measure => simp [intOf]; omega)
            | (go_ret; exact ⟨_, rfl, hBl, fun h => by cases h⟩)
        · obtain rfl : k = 10 := by omega
          clear hlt hk
          by_cases hn1 : n ≤ 1048576
          rotate_left
          · go_wp2
            go_ret
            exact ⟨_, rfl, hBl, fun h => by cases h⟩
          by_cases hn2 : s + (n : Int) ≤ 1048576
          rotate_left
          · go_wp2
            go_ret
            exact ⟨_, rfl, hBl, fun h => by cases h⟩
          go_wp2
          go_loop [11, 14] (fun z v => Upto n (fun j => (Fi j).size ≤ 1048576 ∧ (Pr j).size ≤ 1048576) z v) (fun _ v => n - (intOf v).toNat)
          case atStart => exact ⟨0, _, by omega, rfl, rfl, by omega, hn2, fun i hi => absurd hi (Nat.not_lt_zero _)⟩
          case round =>
            obtain ⟨j, s, hj, rfl, rfl, h0, h1, hq⟩ := hrel
            have HQ3 : Hid (∀ i, i < j → (Fi i).size ≤ 1048576 ∧ (Pr i).size ≤ 1048576) := hq
            clear hq
            by_cases hlt : j < n
            · obtain rfl := hIn'.top (by omega)
              have c2 := hIn'.c2 j hlt
              have c3 := hIn'.c3 j hlt
              clear hIn' hBx
              go_wp2
              all_goals first
                | (go_round
                   case rel => exact ⟨j + 1, _, by omega, by go_num, rfl, by omega, by omega, Upto.step HQ3.out ⟨by omega, by omega⟩⟩
                   case measure => simp [intOf]; omega)
                | (go_ret; exact ⟨_, rfl, hBl, fun h => by cases h⟩)
            · obtain rfl : j = n := by omega
              go_wp2
              go_ret
              exact ⟨_, rfl, hBl, fun _ => ⟨fun i hi => ⟨HQ.out i hi, HQ2.out i hi⟩, hn1, HQ3.out⟩⟩
end Go.Proofs.Qxb6617664a
