/- Plain mathematics: the search for runs, step by step. No program in sight. No condition. -/
import Derived.Test.YtbmnpadpjbcljaaDoorRvP
namespace Go.Proofs.YtbmnpadpjbcljaaDoor

/-- In search of a run's begin, at d. -/
def P1 (f : Nat → Bool) (c : Nat) (L : List (Nat × Nat)) (d : Nat) : Prop := L = runs f c (d - 1 - c) ∧ (f d = true → d = c + 1 ∨ f (d - 1) = false)
/-- In search of a run's end, at d; it began at s behind c. -/
def P2 (f : Nat → Bool) (c : Nat) (L : List (Nat × Nat)) (d s : Nat) : Prop := 1 ≤ s ∧ c + s ≤ d ∧ L = runs f c (s - 1) ∧ (s = 1 ∨ f (c + (s - 1)) = false) ∧ f (c + s) = true ∧ ∀ i, s ≤ i → c + i < d → f (c + i) = true

theorem P1.found {f : Nat → Bool} {c d i : Nat} {L : List (Nat × Nat)} (h : P1 f c L d) (hc : c < d) (h1 : f (d + i) = true) (h2 : ∀ j, j < i → f (d + j) = false) : P2 f c L (d + i) (d + i - c) := by
  obtain ⟨hL, hb⟩ := h
  refine ⟨by omega, by omega, ?_, ?_, by rw [show c + (d + i - c) = d + i by omega]; exact h1, fun k hk1 hk2 => by omega⟩
  · rw [hL]
    refine (runs_none (by omega) (fun k hk1 hk2 => ?_)).symm
    have := h2 (c + k - d) (by omega)
    rw [show d + (c + k - d) = c + k by omega] at this
    exact this
  · rcases Nat.eq_zero_or_pos i with rfl | hi
    · rcases hb (by simpa using h1) with h3 | h3
      · exact .inl (by omega)
      · exact .inr (by rw [show c + (d + 0 - c - 1) = d - 1 by omega]; exact h3)
    · right
      have := h2 (i - 1) (by omega)
      rw [show c + (d + i - c - 1) = d + (i - 1) by omega]
      exact this
theorem P1.on {f : Nat → Bool} {c d m : Nat} {L : List (Nat × Nat)} (h : P1 f c L d) (hc : c < d) (hm : 1 ≤ m) (h2 : ∀ j, j < m → f (d + j) = false) : P1 f c L (d + m) := by
  obtain ⟨hL, hb⟩ := h
  refine ⟨?_, fun _ => .inr ?_⟩
  · rw [hL]
    refine (runs_none (by omega) (fun k hk1 hk2 => ?_)).symm
    have := h2 (c + k - d) (by omega)
    rw [show d + (c + k - d) = c + k by omega] at this
    exact this
  · have := h2 (m - 1) (by omega)
    rw [show d + m - 1 = d + (m - 1) by omega]
    exact this
theorem P2.on {f : Nat → Bool} {c d m s : Nat} {L : List (Nat × Nat)} (h : P2 f c L d s) (h2 : ∀ j, j < m → f (d + j) = true) : P2 f c L (d + m) s := by
  obtain ⟨a1, a2, a3, a4, a5, a6⟩ := h
  refine ⟨a1, by omega, a3, a4, a5, fun k hk1 hk2 => ?_⟩
  rcases Nat.lt_or_ge (c + k) d with h | h
  · exact a6 k hk1 h
  · have := h2 (c + k - d) (by omega)
    rw [show d + (c + k - d) = c + k by omega] at this
    exact this
/-- All from the run's begin up to d - 1 came: the runs up to there. -/
theorem P2.close {f : Nat → Bool} {c d s : Nat} {L : List (Nat × Nat)} (h : P2 f c L d s) (hs : c + s < d) : L ++ [(s, d - 1 - c)] = runs f c (d - 1 - c) := by
  obtain ⟨a1, a2, a3, a4, a5, a6⟩ := h
  rw [runs_run a1 a4 (by omega) (fun i h1 h2 => a6 i h1 (by omega)), a3]
theorem P2.lt {f : Nat → Bool} {c d i s : Nat} {L : List (Nat × Nat)} (h : P2 f c L d s) (h1 : f (d + i) = false) : c + s < d + i := by
  obtain ⟨a1, a2, a3, a4, a5, a6⟩ := h
  rcases Nat.lt_or_ge (c + s) (d + i) with h | h
  · exact h
  · have e : c + s = d + i := by omega
    rw [e, h1] at a5
    cases a5
theorem P1.closed {f : Nat → Bool} {c d : Nat} {L : List (Nat × Nat)} (h : L = runs f c (d - 1 - c)) (h1 : f d = false) : P1 f c L d := ⟨h, fun h2 => by rw [h1] at h2; cases h2⟩

/-- What is left to do. -/
def meas (f : Nat → Bool) (d : Nat) (b : Bool) : Nat := 3 * (2000 - d) + (if b then (if f d then 0 else 2) else 1)
theorem meas_found {f : Nat → Bool} {d i : Nat} (hd : d + i ≤ 1999) (h : f (d + i) = true) : meas f (d + i) true < meas f d false := by
  unfold meas
  simp [h]
  omega
theorem meas_on {f : Nat → Bool} {d m : Nat} (hd : d + m ≤ 1999) (hm : 1 ≤ m) : meas f (d + m) false < meas f d false := by
  unfold meas
  simp
  omega
theorem meas_end {f : Nat → Bool} {d i : Nat} (hd : d + i ≤ 1999) (h : f (d + i) = false) (h2 : ∀ j, j < i → f (d + j) = true) : meas f (d + i) false < meas f d true := by
  unfold meas
  rcases Nat.eq_zero_or_pos i with rfl | hi
  · have h' : f d = false := by simpa using h
    simp [h']
  · have h3 : f d = true := by simpa using h2 0 hi
    simp [h3]
    omega
theorem meas_more {f : Nat → Bool} {d m : Nat} (hd : d + m ≤ 1999) (hm : 1 ≤ m) : meas f (d + m) true < meas f d true := by
  unfold meas
  simp only [if_true]
  split <;> split <;> omega
theorem runs_congr {f g : Nat → Bool} {c k : Nat} (h : ∀ i, 1 ≤ i → f (c + i) = g (c + i)) : runs f c k = runs g c k := by
  induction k with
  | zero => rfl
  | succ k ih =>
    unfold runs
    rw [ih, h (k + 1) (by omega)]
    rcases Nat.eq_zero_or_pos k with rfl | hk
    · simp
    · rw [h k hk]
theorem tsn_sub {first a b : Nat} (hab : b ≤ a) (ha : a ≤ 100000) : (tsnOf first a + 4294967296 - tsnOf first b) % 4294967296 = a - b := by unfold tsnOf; omega
end Go.Proofs.YtbmnpadpjbcljaaDoor
