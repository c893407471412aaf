/- THE WALKS OF digits, ZZdigits, zzIsDigit, zzIsRun, zzBytes. -/
import Derived.Test.Qxb6617620aChecked
import Derived.Test.Qxb6617620aPlain
import Derived.WalkKit
namespace Go.Proofs.Qxb6617620a
open Go.RowKit

/-- The answer of digits: behind a name. -/
def Dg (s : ByteArray) (i : Nat) (w : World) (e : Ending) (w' : World) : Prop := ∃ r : Nat, e = .returned (.int .i64 r) ∧ Run (dg s) s.size i r ∧ w = w'

theorem dg_yes {s : ByteArray} {k : Nat} (h : k < s.size) (h1 : (48 : Int) ≤ (s[k].toNat : Int)) (h2 : (s[k].toNat : Int) ≤ 57) : dg s k = true := by
  unfold dg; rw [dif_pos h]; simp [h1, h2]
theorem dg_no1 {s : ByteArray} {k : Nat} (h : k < s.size) (h1 : ¬ (48 : Int) ≤ (s[k].toNat : Int)) : dg s k = false := by
  unfold dg; rw [dif_pos h]; simp [h1]
theorem dg_no2 {s : ByteArray} {k : Nat} (h : k < s.size) (h1 : ¬ (s[k].toNat : Int) ≤ 57) : dg s k = false := by
  unfold dg; rw [dif_pos h]; simp [h1]

set_option maxHeartbeats 400000 in
theorem digits_any (s : ByteArray) (i : Nat) (w : World) (hs : s.size ≤ 2097152) :
    Calls Try.prog 10 #[.string s, .int .i64 i] w fun e w' => Dg s i w e w' := by
  go_enter Try.func10, Try.ntmps10
  go_wp2
  go_loop [1] (fun v => ∃ k : Nat, v = .int .i64 k ∧ i ≤ k ∧ (k ≤ s.size ∨ k = i) ∧ Hid (∀ j, i ≤ j → j < k → dg s j = true)) (fun v => s.size - (intOf v).toNat)
  case atStart => exact ⟨i, rfl, Nat.le_refl _, .inr rfl, fun j h1 h2 => by omega⟩
  case round =>
    obtain ⟨k, rfl, hik, hks, HD⟩ := hrel
    by_cases hlt : k < s.size
    · by_cases h1 : (48 : Int) ≤ (s[k].toNat : Int)
      · by_cases h2 : (s[k].toNat : Int) ≤ 57
        · have HY : Hid (dg s k = true) := dg_yes hlt h1 h2
          clear hks
          go_wp2
          go_round
          case rel => exact ⟨k + 1, by go_num, by omega, .inl (by omega), fun j a b => by
            by_cases e : j = k
            · subst e; exact HY.out
            · exact HD.out j a (by omega)⟩
          case measure => simp [intOf]; omega
        · have HY : Hid (dg s k = false) := dg_no2 hlt h2
          clear hks
          go_wp2
          go_ret
          exact ⟨k, rfl, .inr ⟨hik, by omega, HD.out, fun _ => HY.out⟩, rfl⟩
      · have HY : Hid (dg s k = false) := dg_no1 hlt h1
        clear hks
        go_wp2
        go_ret
        exact ⟨k, rfl, .inr ⟨hik, by omega, HD.out, fun _ => HY.out⟩, rfl⟩
    · have HK : Hid (k ≤ s.size ∨ k = i) := hks
      clear hks
      go_wp2
      go_ret
      refine ⟨k, rfl, ?_, rfl⟩
      by_cases e : s.size < i
      · exact .inl ⟨e, by rcases HK.out with h | h <;> omega⟩
      · exact .inr ⟨hik, by rcases HK.out with h | h <;> omega, HD.out, fun h => by omega⟩

theorem zzDigits_any (s : ByteArray) (i : Nat) (w : World) (hs : s.size ≤ 2097152) :
    Calls Try.prog 6 #[.string s, .int .i64 i] w fun e w' => Dg s i w e w' := by
  go_enter Try.func6, Try.ntmps6
  go_wp2_with (go_at_call 10; refine (digits_any s i _ hs).mono ?_; rintro e w' ⟨r, rfl, hr, rfl⟩)
  go_ret
  exact ⟨r, rfl, hr, rfl⟩

theorem zzDigits_int (s : ByteArray) (i : Int) (w : World) (hs : s.size ≤ 2097152) (hi : 0 ≤ i) :
    Calls Try.prog 6 #[.string s, .int .i64 i] w fun e w' => Dg s i.toNat w e w' := by
  obtain ⟨n, rfl⟩ := Int.eq_ofNat_of_zero_le hi
  rw [Int.toNat_natCast]
  exact zzDigits_any s n w hs

theorem isDigit_yes (c : Int) (w : World) (h1 : (48 : Int) ≤ c) (h2 : c ≤ 57) : Calls Try.prog 9 #[.int .u8 c] w fun e w' => e = .returned (.bool true) ∧ w = w' := by
  go_enter Try.func9, Try.ntmps9
  go_wp2
  go_ret
  exact ⟨rfl, rfl⟩

theorem isDigit_no (c : Int) (w : World) (h : ¬ ((48 : Int) ≤ c ∧ c ≤ 57)) : Calls Try.prog 9 #[.int .u8 c] w fun e w' => e = .returned (.bool false) ∧ w = w' := by
  by_cases h1 : (48 : Int) ≤ c
  · have h2 : ¬ c ≤ 57 := fun h' => h ⟨h1, h'⟩
    clear h
    go_enter Try.func9, Try.ntmps9
    go_wp2
    go_ret
    exact ⟨rfl, rfl⟩
  · clear h
    go_enter Try.func9, Try.ntmps9
    go_wp2
    go_ret
    exact ⟨rfl, rfl⟩

theorem dg_true {s : ByteArray} {k : Nat} (h : dg s k = true) (hk : k < s.size) : (48 : Int) ≤ (s[k].toNat : Int) ∧ (s[k].toNat : Int) ≤ 57 := by
  unfold dg at h; rw [dif_pos hk] at h; simpa using h
theorem dg_false {s : ByteArray} {k : Nat} (h : dg s k = false) (hk : k < s.size) : ¬ ((48 : Int) ≤ (s[k].toNat : Int) ∧ (s[k].toNat : Int) ≤ 57) := by
  intro hh
  rw [dg_yes hk hh.1 hh.2] at h; cases h

/-- The counter lies between i and r. -/
def Between (i r : Nat) (v : Value) : Prop := ∃ k : Nat, v = .int .i64 k ∧ i ≤ k ∧ k ≤ r

set_option maxHeartbeats 800000 in
theorem isRun_any (s : ByteArray) (i r : Nat) (w : World) (hs : s.size ≤ 2097152) (hr : Run (dg s) s.size i r) :
    Calls Try.prog 7 #[.string s, .int .i64 i, .int .i64 r] w fun e w' => e = .returned (.bool true) ∧ w = w' := by
  rcases hr with ⟨a, b⟩ | ⟨a, b, c, d⟩
  · subst b
    have hb : ((r : Int) == (r : Int)) = true := beq_self_eq_true _
    go_enter Try.func7, Try.ntmps7
    go_wp2
    go_ret
    exact ⟨by simp, rfl⟩
  · have C : Hid (∀ k, i ≤ k → k < r → dg s k = true) := c
    have D : Hid (r < s.size → dg s r = false) := d
    clear c d
    have h0 : decide (r < i) = false := decide_eq_false (by omega)
    have h1 : decide (s.size < r) = false := decide_eq_false (by omega)
    have h2 : decide (s.size < i) = false := decide_eq_false (by omega)
    go_enter Try.func7, Try.ntmps7
    go_wp2
    go_loop [7] (fun v => Between i r v) (fun v => r - (intOf v).toNat)
    case atStart => exact ⟨i, rfl, Nat.le_refl _, a⟩
    case round =>
      obtain ⟨k, rfl, hik, hkr⟩ := hrel
      by_cases hlt : k < r
      · have hks : k < s.size := by omega
        have hd := dg_true (C.out k hik hlt) hks
        have HD : Hid (((48 : Int) ≤ (s[k].toNat : Int) ∧ (s[k].toNat : Int) ≤ 57)) := hd
        clear hd
        go_wp2_with (go_at_call 9; refine (isDigit_yes _ _ HD.out.1 HD.out.2).mono ?_; rintro e w' ⟨rfl, rfl⟩)
        go_round
        case rel => exact ⟨k + 1, by go_num, by omega, by omega⟩
        case measure => simp [intOf]; omega
      · by_cases hrs : r < s.size
        · have hd := dg_false (D.out hrs) hrs
          have HD : Hid (¬ ((48 : Int) ≤ (s[r].toNat : Int) ∧ (s[r].toNat : Int) ≤ 57)) := hd
          clear hd
          have hne : ((r : Int) == (s.size : Int)) = false := beq_eq_false_iff_ne.2 (by omega)
          go_wp2_with (go_at_call 9; refine (isDigit_no _ _ HD.out).mono ?_; rintro e w' ⟨rfl, rfl⟩)
          go_ret
          exact ⟨rfl, rfl⟩
        · have hne : ((r : Int) == (s.size : Int)) = true := beq_iff_eq.2 (by omega)
          go_wp2
          go_ret
          exact ⟨rfl, rfl⟩

/-- It returns a bool; nothing turns. -/
def SomeBool (w : World) (e : Ending) (w' : World) : Prop := ∃ b, e = .returned (.bool b) ∧ w = w'

theorem zzBytes_any (a b : ByteArray) (i : Int) (w : World) (ha : a.size ≤ maxLen) (hb : b.size ≤ maxLen) :
    Calls Try.prog 5 #[.string a, .string b, .int .i64 i] w fun e w' => SomeBool w e w' := by
  unfold maxLen at *
  go_enter Try.func5, Try.ntmps5
  go_wp2
  all_goals (go_ret; exact ⟨_, rfl, rfl⟩)

theorem zzBytes2_any (s : ByteArray) (p c i : Int) (w : World) (ha : s.size ≤ maxLen) :
    Calls Try.prog 8 #[.string s, .int .i64 p, .int .u8 c, .int .i64 i] w fun e w' => SomeBool w e w' := by
  unfold maxLen at *
  go_enter Try.func8, Try.ntmps8
  go_wp2
  all_goals (go_ret; exact ⟨_, rfl, rfl⟩)
end Go.Proofs.Qxb6617620a
