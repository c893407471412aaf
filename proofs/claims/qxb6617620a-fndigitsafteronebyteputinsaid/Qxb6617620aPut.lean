/- PLAIN: one byte put in. -/
import Derived.Test.Qxb6617620aDig
namespace Go.Proofs.Qxb6617620a
open Go.RowKit

/-- The digits of a string with one byte put in at p ('d': is that byte a digit?). -/
def put (f : Nat → Bool) (d : Bool) (p k : Nat) : Bool := if k < p then f k else if k = p then d else f (k - 1)

theorem put_before {f : Nat → Bool} {d : Bool} {p n i r : Nat} (h : Run f n i r) (hp : p ≤ n) (hr : r < p) : Run (put f d p) (n + 1) i r := by
  rcases h with ⟨a, b⟩ | ⟨a, b, c, e⟩
  · omega
  · exact .inr ⟨a, by omega, fun k hk hkr => by unfold put; rw [if_pos (by omega)]; exact c k hk hkr, fun _ => by unfold put; rw [if_pos hr]; exact e (by omega)⟩

theorem put_longer {f : Nat → Bool} {p n i r : Nat} (h : Run f n i r) (hp : p ≤ n) (hi : i ≤ p) (hr : ¬ r < p) : Run (put f true p) (n + 1) i (r + 1) := by
  rcases h with ⟨a, b⟩ | ⟨a, b, c, e⟩
  · omega
  · refine .inr ⟨by omega, by omega, fun k hk hkr => ?_, fun hlt => ?_⟩
    · unfold put
      by_cases h1 : k < p
      · rw [if_pos h1]; exact c k hk (by omega)
      · rw [if_neg h1]
        by_cases h2 : k = p
        · rw [if_pos h2]
        · rw [if_neg h2]; exact c _ (by omega) (by omega)
    · unfold put
      rw [if_neg (by omega), if_neg (by omega), Nat.add_sub_cancel]; exact e (by omega)

theorem put_cut {f : Nat → Bool} {p n i r : Nat} (h : Run f n i r) (hp : p ≤ n) (hi : i ≤ p) (hr : ¬ r < p) : Run (put f false p) (n + 1) i p := by
  rcases h with ⟨a, b⟩ | ⟨a, b, c, e⟩
  · omega
  · refine .inr ⟨hi, by omega, fun k hk hkr => ?_, fun hlt => ?_⟩
    · unfold put
      rw [if_pos hkr]; exact c k hk (by omega)
    · unfold put
      rw [if_neg (Nat.lt_irrefl _), if_pos rfl]

theorem put_behind {f : Nat → Bool} {d : Bool} {p n i r : Nat} (hi : ¬ i ≤ p) (h : Run f n (i - 1) r) : Run (put f d p) (n + 1) i (r + 1) := by
  rcases h with ⟨a, b⟩ | ⟨a, b, c, e⟩
  · exact .inl ⟨by omega, by omega⟩
  · refine .inr ⟨by omega, by omega, fun k hk hkr => ?_, fun hlt => ?_⟩
    · unfold put
      rw [if_neg (by omega), if_neg (by omega)]; exact c _ (by omega) (by omega)
    · unfold put
      rw [if_neg (by omega), if_neg (by omega), Nat.add_sub_cancel]; exact e (by omega)

/-- Is this byte a digit? -/
def isDg (c : UInt8) : Bool := decide (48 ≤ (c.toNat : Int)) && decide ((c.toNat : Int) ≤ 57)

/-- The bytes with c put in at p. -/
def T (s : ByteArray) (p : Nat) (c : UInt8) : List UInt8 := s.data.toList.take p ++ c :: s.data.toList.drop p
def tS (s : ByteArray) (p : Nat) (c : UInt8) : ByteArray := ⟨(T s p c).toArray⟩

theorem T_length (s : ByteArray) (p : Nat) (c : UInt8) (hp : p ≤ s.size) : (T s p c).length = s.size + 1 := by
  have : s.data.toList.length = s.size := by simp
  simp [T]; omega
theorem tS_size (s : ByteArray) (p : Nat) (c : UInt8) (hp : p ≤ s.size) : (tS s p c).size = s.size + 1 := by
  show (T s p c).toArray.size = _
  rw [List.size_toArray, T_length s p c hp]

theorem T_before (s : ByteArray) (p : Nat) (c : UInt8) (k : Nat) (hp : p ≤ s.size) (hk : k < p) : (T s p c)[k]? = some (s[k]'(by omega)) := by
  unfold T
  rw [List.getElem?_append_left (by simp; omega), List.getElem?_take_of_lt hk]
  have : k < s.data.toList.length := by simp; omega
  rw [List.getElem?_eq_getElem this]
  rfl
theorem T_at (s : ByteArray) (p : Nat) (c : UInt8) (hp : p ≤ s.size) : (T s p c)[p]? = some c := by
  unfold T
  have hl : (s.data.toList.take p).length = p := by simp; omega
  rw [List.getElem?_append_right (by omega), hl, Nat.sub_self]
  rfl
theorem T_behind (s : ByteArray) (p : Nat) (c : UInt8) (k : Nat) (hp : p ≤ k) (hk : k < s.size) : (T s p c)[k + 1]? = some s[k] := by
  unfold T
  have hl : (s.data.toList.take p).length = p := by simp; omega
  rw [List.getElem?_append_right (by omega), hl, show k + 1 - p = (k - p) + 1 by omega, List.getElem?_cons_succ, List.getElem?_drop, show p + (k - p) = k by omega]
  have : k < s.data.toList.length := by simp; omega
  rw [List.getElem?_eq_getElem this]
  rfl

theorem dg_tS_of {s : ByteArray} {p : Nat} {c u : UInt8} {k : Nat} (h : (T s p c)[k]? = some u) : dg (tS s p c) k = isDg u := by
  have hk : k < (T s p c).length := (List.getElem?_eq_some_iff.1 h).1
  have hk' : k < (tS s p c).size := by show k < (T s p c).toArray.size; rwa [List.size_toArray]
  unfold dg isDg
  rw [dif_pos hk']
  have e : (tS s p c)[k] = u := by
    have := (List.getElem?_eq_some_iff.1 h).2
    have h2 : ((T s p c).toArray)[k]'(by simpa using hk) = u := by rw [List.getElem_toArray]; exact this
    exact h2
  rw [e]

theorem dg_tS (s : ByteArray) (p : Nat) (c : UInt8) (hp : p ≤ s.size) (k : Nat) (hk : k < s.size + 1) : dg (tS s p c) k = put (dg s) (isDg c) p k := by
  unfold put
  by_cases h1 : k < p
  · rw [if_pos h1, dg_tS_of (T_before s p c k hp h1)]
    unfold dg isDg; rw [dif_pos (show k < s.size by omega)]
  · rw [if_neg h1]
    by_cases h2 : k = p
    · subst h2; rw [if_pos rfl, dg_tS_of (T_at s k c hp)]
    · rw [if_neg h2]
      have e : k = (k - 1) + 1 := by omega
      have h3 := T_behind s p c (k - 1) (by omega) (by omega)
      rw [← e] at h3
      rw [dg_tS_of h3]
      unfold dg isDg; rw [dif_pos (show k - 1 < s.size by omega)]

/-- THE SECOND LAW. -/
theorem put_law {s : ByteArray} {p i r : Nat} {c : UInt8} (hp : p ≤ s.size) (h : Run (dg (tS s p c)) (tS s p c).size i r) :
    (∀ rs, Run (dg s) s.size i rs → rs < p → r = rs) ∧ (∀ rs, i ≤ p → Run (dg s) s.size i rs → ¬ rs < p → isDg c = true → r = rs + 1) ∧
    (∀ rs, i ≤ p → Run (dg s) s.size i rs → ¬ rs < p → isDg c = false → r = p) ∧ (∀ rs, ¬ i ≤ p → Run (dg s) s.size (i - 1) rs → r = rs + 1) := by
  have h' : Run (put (dg s) (isDg c) p) (s.size + 1) i r := by
    rw [tS_size s p c hp] at h
    exact h.congr fun k hk => dg_tS s p c hp k hk
  exact ⟨fun rs ha hr => h'.one (put_before ha hp hr), fun rs hi ha hr hd => h'.one (by rw [hd]; exact put_longer ha hp hi hr), fun rs hi ha hr hd => h'.one (by rw [hd]; exact put_cut ha hp hi hr), fun rs hi hb => h'.one (put_behind hi hb)⟩

/-! ### the row of bytes that is built -/
def bytesV (l : List UInt8) : List Value := l.map fun c => .int .u8 (c.toNat : Int)

theorem bytesV_snoc {l : List UInt8} {k : Nat} {u : UInt8} (h : l[k]? = some u) : bytesV (l.take (k + 1)) = bytesV (l.take k) ++ [.int .u8 (u.toNat : Int)] := by
  obtain ⟨hk, e⟩ := List.getElem?_eq_some_iff.1 h
  rw [List.take_succ_eq_append_getElem hk, e]
  simp [bytesV]

theorem foldl_push (l : List UInt8) (acc : ByteArray) : (l.map fun c => (c.toNat : Int)).foldl (fun r n => r.push (UInt8.ofNat n.toNat)) acc = ⟨acc.data ++ l.toArray⟩ := by
  induction l generalizing acc with
  | nil => simp
  | cons c l ih =>
    simp only [List.map_cons, List.foldl_cons]
    rw [ih]
    have : UInt8.ofNat (c.toNat : Int).toNat = c := by simp
    rw [this]
    show (⟨(acc.data.push c) ++ l.toArray⟩ : ByteArray) = _
    simp

theorem conv_run {P : Program} (w : World) (B g cap : Nat) (l : List UInt8) (h26 : P.underlying 26 = some (.slice 5)) (h5 : P.underlying 5 = some (.int .u8)) (h9 : P.underlying 9 = some .string)
    (h : w.ownsRow B 5 1 (.slice (some ⟨g, 0, none⟩) l.length cap) l.length (bytesV l)) :
    (convert 26 9 (.slice (some ⟨g, 0, none⟩) l.length cap)).run P w = .ok (.string ⟨l.toArray⟩) w := by
  rw [run_convert_bytes_string w 26 9 5 _ _ _ h26 h5 h9]
  have hl := run_loadCells_list (P := P) w ⟨g, 0, none⟩ (bytesV l) (h.cells rfl)
  have e : bytesV l = (l.map fun c => (c.toNat : Int)).map (Value.int .u8) := by simp [bytesV]
  rw [show (bytesV l).length = l.length by simp [bytesV], e] at hl
  rw [run_bytesToString w _ _ _ _ hl, foldl_push]
  congr
  simp
end Go.Proofs.Qxb6617620a
