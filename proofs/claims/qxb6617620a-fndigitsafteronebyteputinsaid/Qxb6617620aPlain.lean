/- PLAIN: what a run of digits is; that it is one; how it goes over joined strings. -/
namespace Go.Proofs.Qxb6617620a

/-- Is the byte at place k a decimal digit? -/
def dg (s : ByteArray) (k : Nat) : Bool := if h : k < s.size then decide (48 ≤ (s[k].toNat : Int)) && decide ((s[k].toNat : Int) ≤ 57) else false

/-- r is the answer from i, over n places. -/
def Run (f : Nat → Bool) (n i r : Nat) : Prop := (n < i ∧ r = i) ∨ (i ≤ r ∧ r ≤ n ∧ (∀ k, i ≤ k → k < r → f k = true) ∧ (r < n → f r = false))

theorem Run.one {f : Nat → Bool} {n i r r' : Nat} (h : Run f n i r) (h' : Run f n i r') : r = r' := by
  rcases h with ⟨a, b⟩ | ⟨a, b, c, d⟩ <;> rcases h' with ⟨a', b'⟩ | ⟨a', b', c', d'⟩
  · omega
  · omega
  · omega
  · rcases Nat.lt_trichotomy r r' with h | h | h
    · have := c' r a h; rw [d (by omega)] at this; cases this
    · exact h
    · have := c r' a' h; rw [d' (by omega)] at this; cases this

theorem Run.ge {f : Nat → Bool} {n i r : Nat} (h : Run f n i r) : i ≤ r := by
  rcases h with ⟨a, b⟩ | ⟨a, b, c, d⟩ <;> omega

theorem Run.le {f : Nat → Bool} {n i r : Nat} (h : Run f n i r) (hi : i ≤ n) : r ≤ n := by
  rcases h with ⟨a, b⟩ | ⟨a, b, c, d⟩ <;> omega

/-- Two pieces: f on the first n places, g behind. -/
def joined (f g : Nat → Bool) (n k : Nat) : Bool := if k < n then f k else g (k - n)

theorem run_inside {f g : Nat → Bool} {n m i r : Nat} (h : Run f n i r) (hr : r < n) : Run (joined f g n) (n + m) i r := by
  rcases h with ⟨a, b⟩ | ⟨a, b, c, d⟩
  · omega
  · exact .inr ⟨a, by omega, fun k hk hkr => by unfold joined; rw [if_pos (by omega)]; exact c k hk hkr, fun _ => by unfold joined; rw [if_pos hr]; exact d hr⟩

theorem run_over {f g : Nat → Bool} {n m i ra rb : Nat} (h : Run f n i ra) (hi : i ≤ n) (hr : ¬ ra < n) (h' : Run g m 0 rb) : Run (joined f g n) (n + m) i (n + rb) := by
  rcases h with ⟨a, b⟩ | ⟨a, b, c, d⟩
  · omega
  · rcases h' with ⟨a', b'⟩ | ⟨a', b', c', d'⟩
    · omega
    · refine .inr ⟨by omega, by omega, fun k hk hkr => ?_, fun hlt => ?_⟩
      · unfold joined
        by_cases hkn : k < n
        · rw [if_pos hkn]; exact c k hk (by omega)
        · rw [if_neg hkn]; exact c' _ (by omega) (by omega)
      · unfold joined
        rw [if_neg (by omega), show n + rb - n = rb by omega]; exact d' (by omega)

theorem run_behind {f g : Nat → Bool} {n m i rb : Nat} (hi : ¬ i ≤ n) (h' : Run g m (i - n) rb) : Run (joined f g n) (n + m) i (n + rb) := by
  rcases h' with ⟨a', b'⟩ | ⟨a', b', c', d'⟩
  · exact .inl ⟨by omega, by omega⟩
  · refine .inr ⟨by omega, by omega, fun k hk hkr => ?_, fun hlt => ?_⟩
    · unfold joined
      rw [if_neg (by omega)]; exact c' _ (by omega) (by omega)
    · unfold joined
      rw [if_neg (by omega), show n + rb - n = rb by omega]; exact d' (by omega)

theorem Run.congr {f g : Nat → Bool} {n i r : Nat} (h : Run f n i r) (e : ∀ k, k < n → f k = g k) : Run g n i r := by
  rcases h with ⟨a, b⟩ | ⟨a, b, c, d⟩
  · exact .inl ⟨a, b⟩
  · exact .inr ⟨a, b, fun k hk hkr => by rw [← e k (by omega)]; exact c k hk hkr, fun hlt => by rw [← e r hlt]; exact d hlt⟩

theorem dg_append (a b : ByteArray) (k : Nat) : dg (a ++ b) k = joined (dg a) (dg b) a.size k := by
  unfold joined dg
  by_cases h1 : k < a.size
  · rw [dif_pos (by rw [ByteArray.size_append]; omega), if_pos h1, dif_pos h1]
    simp only [ByteArray.getElem_append_left h1]
  · rw [if_neg h1]
    by_cases h2 : k - a.size < b.size
    · rw [dif_pos (by rw [ByteArray.size_append]; omega), dif_pos h2]
      simp only [ByteArray.getElem_append_right (show a.size ≤ k by omega)]
    · rw [dif_neg (by rw [ByteArray.size_append]; omega), dif_neg h2]

/-- THE FIRST LAW: the answer over a + b. -/
theorem split_law {a b : ByteArray} {i r : Nat} (h : Run (dg (a ++ b)) (a ++ b).size i r) :
    (∀ ra, i ≤ a.size → Run (dg a) a.size i ra → ra < a.size → r = ra) ∧ (∀ ra rb, i ≤ a.size → Run (dg a) a.size i ra → ¬ ra < a.size → Run (dg b) b.size 0 rb → r = a.size + rb) ∧
    (∀ rb, ¬ i ≤ a.size → Run (dg b) b.size (i - a.size) rb → r = a.size + rb) := by
  have h' : Run (joined (dg a) (dg b) a.size) (a.size + b.size) i r := by
    rw [ByteArray.size_append] at h
    exact h.congr fun k _ => dg_append a b k
  exact ⟨fun ra hi ha hr => h'.one (run_inside ha hr), fun ra rb hi ha hr hb => h'.one (run_over ha hi hr hb), fun rb hi hb => h'.one (run_behind hi hb)⟩
end Go.Proofs.Qxb6617620a
