/- THE WALKS OF the law's small helpers: zzBytes, tooBig, rowsFit, sameFloat. -/
import Derived.Test.Qxb6617596aMul
import Derived.Laws.Cover2
namespace Go.Proofs.Qxb6617596a
open Go.RowKit Fl

/-- It returns a bool of which p holds; nothing turns. (Behind a name: the walk's simp would take '∃ b : Bool' apart.) -/
def Says (p : Bool → Prop) (w : World) (e : Ending) (w' : World) : Prop := ∃ b, e = .returned (.bool b) ∧ w = w' ∧ p b

def Fits (lm lv la : Nat) (L : Nat → Nat) : Prop := lm ≤ 1048576 ∧ lv ≤ 1048576 ∧ la ≤ 1048576 ∧ ∀ r, r < lm → L r ≤ 1048576

set_option maxHeartbeats 800000 in
theorem zzBytes_any (m v a : Option Addr) (mb mo lm cm lv cv la ca x : Nat) (R : Nat → Option Addr) (L C RB RO : Nat → Nat) (Z : Nat → Nat → Nat) (w : World)
    (hM : Mat w m mb mo lm R L C RB RO Z) (hlm : lm ≤ maxLen) (hlv : lv ≤ maxLen) (hla : la ≤ maxLen) (hL : ∀ r, r < lm → L r ≤ maxLen) :
    Calls Try.prog 5 #[.slice m lm cm, .slice v lv cv, .slice a la ca, .float .f64 x] w fun e w' => Says (fun b => b = true → Fits lm lv la L) w e w' := by
  unfold maxLen at *
  by_cases h1 : lm ≤ 1048576
  · go_enter Try.func5, Try.ntmps5
    go_wp2
    go_loop [9, 10] (fun z i => ∃ (k : Nat) (n : Int), k ≤ lm ∧ i = .int .i64 k ∧ z = .int .i64 n ∧ 0 ≤ n ∧ n ≤ 1048576 ∧ ∀ r, r < k → L r ≤ 1048576) (fun _ i => lm - (intOf i).toNat)
    case atStart => exact ⟨0, lm, Nat.zero_le _, rfl, rfl, by omega, by omega, fun r hr => absurd hr (Nat.not_lt_zero _)⟩
    case round =>
      obtain ⟨k, n, hk, rfl, rfl, hn0, hn1, hr⟩ := hrel
      have HR : Hid (∀ r, r < k → L r ≤ 1048576) := hr
      clear hr
      by_cases hlt : k < lm
      · obtain rfl := hM.top (by omega)
        have c0 := hM.row k hlt
        have hl := hL k hlt
        clear hM hL
        go_wp2
        all_goals first
          | (go_round
             case rel => exact ⟨k + 1, n + (L k : Int), by omega, by go_num, by go_num, by omega, by omega, fun r hr => by
               by_cases e : r = k
               · subst e; omega
               · exact HR.out r (by omega)⟩
             case measure => simp [intOf]; omega)
          | (go_ret; exact ⟨_, rfl, rfl, fun h => by simp at h⟩)
      · clear hM
        go_wp2
        all_goals (go_ret; exact ⟨_, rfl, rfl, fun h => by first | (simp at h; done) | exact ⟨h1, by omega, by omega, fun r hr => HR.out r (by omega)⟩⟩)
  · go_enter Try.func5, Try.ntmps5
    go_wp2
    go_ret
    exact ⟨false, rfl, rfl, fun h => by simp at h⟩

set_option maxHeartbeats 800000 in
theorem tooBig_any (m v a : Option Addr) (mb mo lm cm lv cv la ca : Nat) (R : Nat → Option Addr) (L C RB RO : Nat → Nat) (Z : Nat → Nat → Nat) (w : World)
    (hM : Mat w m mb mo lm R L C RB RO Z) (hlm : lm ≤ 1048576) (hlv : lv ≤ 1048576) (hla : la ≤ 1048576) (hL : ∀ r, r < lm → L r ≤ 1048576) :
    Calls Try.prog 6 #[.slice m lm cm, .slice v lv cv, .slice a la ca] w fun e w' => Says (fun _ => True) w e w' := by
  by_cases h1 : (131072 : Int) < (lm : Int)
  · go_enter Try.func6, Try.ntmps6
    go_wp2
    go_ret
    exact ⟨true, rfl, rfl, trivial⟩
  by_cases h2 : (131072 : Int) < (lv : Int)
  · go_enter Try.func6, Try.ntmps6
    go_wp2
    go_ret
    exact ⟨true, rfl, rfl, trivial⟩
  by_cases h3 : (131072 : Int) < (la : Int)
  · go_enter Try.func6, Try.ntmps6
    go_wp2
    go_ret
    exact ⟨true, rfl, rfl, trivial⟩
  by_cases h4 : (1048576 : Int) < 8 * ((lm : Int) + lv + la)
  · go_enter Try.func6, Try.ntmps6
    go_wp2
    go_ret
    exact ⟨true, rfl, rfl, trivial⟩
  go_enter Try.func6, Try.ntmps6
  go_wp2
  go_loop [7, 8] (fun z i => ∃ (k : Nat) (n : Int), k ≤ lm ∧ i = .int .i64 k ∧ z = .int .i64 n ∧ 0 ≤ n ∧ n ≤ 1048576) (fun _ i => lm - (intOf i).toNat)
  case atStart => exact ⟨0, 8 * ((lm : Int) + lv + la), Nat.zero_le _, rfl, rfl, by omega, by omega⟩
  case round =>
    obtain ⟨k, n, hk, rfl, rfl, hn0, hn1⟩ := hrel
    by_cases hlt : k < lm
    · obtain rfl := hM.top (by omega)
      have c0 := hM.row k hlt
      have hl := hL k hlt
      clear hM hL
      go_wp2
      all_goals first
        | (go_round
           case rel => exact ⟨k + 1, n + 8 * (L k : Int), by omega, by go_num, by go_num, by omega, by omega⟩
           case measure => simp [intOf]; omega)
        | (go_ret; exact ⟨_, rfl, rfl, trivial⟩)
    · clear hM
      go_wp2
      all_goals (go_ret; exact ⟨_, rfl, rfl, trivial⟩)

set_option maxHeartbeats 800000 in
theorem rowsFit_any (m v : Option Addr) (mb mo lm cm lv cv : Nat) (R : Nat → Option Addr) (L C RB RO : Nat → Nat) (Z : Nat → Nat → Nat) (w : World)
    (hM : Mat w m mb mo lm R L C RB RO Z) (hlm : lm ≤ 1048576) (hL : ∀ r, r < lm → L r ≤ 1048576) :
    Calls Try.prog 7 #[.slice m lm cm, .slice v lv cv] w fun e w' => Says (fun b => b = true → ∀ r, r < lm → L r ≤ lv) w e w' := by
  go_enter Try.func7, Try.ntmps7
  go_wp2
  go_loop [5] (fun i => ∃ (k : Nat), k ≤ lm ∧ i = .int .i64 k ∧ ∀ r, r < k → L r ≤ lv) (fun i => lm - (intOf i).toNat)
  case atStart => exact ⟨0, Nat.zero_le _, rfl, fun r hr => absurd hr (Nat.not_lt_zero _)⟩
  case round =>
    obtain ⟨k, hk, rfl, hr⟩ := hrel
    have HR : Hid (∀ r, r < k → L r ≤ lv) := hr
    clear hr
    by_cases hlt : k < lm
    · obtain rfl := hM.top (by omega)
      have c0 := hM.row k hlt
      have hl := hL k hlt
      clear hM hL
      go_wp2
      all_goals first
        | (go_round
           case rel => exact ⟨k + 1, by omega, by go_num, fun r hr => by
             by_cases e : r = k
             · subst e; omega
             · exact HR.out r (by omega)⟩
           case measure => simp [intOf]; omega)
        | (go_ret; exact ⟨_, rfl, rfl, fun h => by simp at h⟩)
    · clear hM
      go_wp2
      go_ret
      exact ⟨_, rfl, rfl, fun _ r hr => HR.out r (by omega)⟩

theorem sameFloat_any (x y : Nat) (w : World) (h : cls x = cls y) :
    Calls Try.prog 9 #[.float .f64 x, .float .f64 y] w fun e w' => e = .returned (.bool true) ∧ w' = w := by
  rcases cls_cases x with hx | hx
  · have hy : cls y = none := by rw [← h, hx]
    have o1 : (FloatKind.f64.format.order x x != some .eq) = true := by rw [order_nan x x hx]; rfl
    have o2 : (FloatKind.f64.format.order y y != some .eq) = true := by rw [order_nan y y hy]; rfl
    clear h hx hy
    go_enter Try.func9, Try.ntmps9
    go_wp2
    go_ret
    exact ⟨by first | rfl | simp [o2], rfl⟩
  · have hy : y = x := by
      rcases cls_cases y with hy | hy
      · rw [← h, hx] at hy; cases hy
      · rw [← h, hx] at hy; exact (Option.some.inj hy).symm
    subst hy
    have o1 : (FloatKind.f64.format.order y y != some .eq) = false := by rw [order_self y hx]; rfl
    have o2 : (FloatKind.f64.format.order y y == some .eq) = true := by rw [order_self y hx]; rfl
    clear h hx
    go_enter Try.func9, Try.ntmps9
    go_wp2
    go_ret
    exact ⟨by first | rfl | simp [o2], rfl⟩
end Go.Proofs.Qxb6617596a
