/- Plain mathematics: what comes, step by step. No program in sight. No condition. -/
import Derived.Test.YtbmnpadpjbcljaaDoorRvZ
namespace Go.Proofs.YtbmnpadpjbcljaaDoor

theorem came_same {l : List Nat} {k x : Nat} (h : l[k]? = some x) (hc : came l k x = true) : came l (k + 1) = came l k := by
  funext d
  rw [came_succ h]
  by_cases hd : d = x
  · subst hd
    simp [hc]
  · simp [hd]
theorem topOf_same {l : List Nat} {k x : Nat} (h : l[k]? = some x) (hc : came l k x = true) : topOf l (k + 1) = topOf l k := by
  have h1 := topOf_ge hc
  show max (topOf l k) (l[k]?.getD 0) = _
  rw [h]
  simp only [Option.getD_some]
  omega
theorem topOf_new {l : List Nat} {k x : Nat} (h : l[k]? = some x) : topOf l (k + 1) = max (topOf l k) x := by
  show max (topOf l k) (l[k]?.getD 0) = _
  rw [h]
  rfl

/-- What f tells behind c. -/
def Tells (p : Nat → Bool) (c : Nat) (f : Nat → Bool) : Prop := ∀ d, f d = (p d && decide (c < d))
theorem Tells.new {l : List Nat} {k x c : Nat} {f : Nat → Bool} (ht : Tells (came l k) c f) (h : l[k]? = some x) (hx : c < x) : Tells (came l (k + 1)) c (upd f x true) := by
  intro d
  unfold upd
  rw [came_succ h]
  by_cases hd : d = x
  · subst hd
    simp [hx]
  · rw [if_neg hd, ht d]
    simp [hd]
theorem Tells.pop {p : Nat → Bool} {c : Nat} {f : Nat → Bool} (ht : Tells p c f) : Tells p (c + 1) (upd f (c + 1) false) := by
  intro d
  unfold upd
  by_cases hd : d = c + 1
  · rw [if_pos hd]
    subst hd
    simp
  · rw [if_neg hd, ht d]
    by_cases h1 : c < d
    · rw [decide_eq_true h1, decide_eq_true (by omega)]
    · rw [decide_eq_false h1, decide_eq_false (by omega)]
theorem QF.new {c top n x : Nat} {f : Nat → Bool} (h : QF c top n f) (hx : c < x) (hx2 : x ≤ 1000) (hf : f x = false) : QF c (max top x) (n + 1) (upd f x true) := by
  have h1 := h.top
  refine ⟨?_, fun e he => ?_, by omega, h.c⟩
  · rw [h.n]
    exact (cnt_add hx2 hf (by simp [upd]) (fun e he => by simp [upd, he])).symm
  · unfold upd at he
    split at he
    · omega
    · have := h.lo e he
      omega
theorem QF.pop {c top n : Nat} {f : Nat → Bool} (h : QF c top n f) (hf : f (c + 1) = true) : QF (c + 1) top (n - 1) (upd f (c + 1) false) := by
  have h1 := h.top
  have h2 := h.lo _ hf
  refine ⟨?_, fun e he => ?_, h1, by omega⟩
  · rw [h.n]
    have := cnt_add (f := upd f (c + 1) false) (g := f) (x := c + 1) (by omega) (by simp [upd]) hf (fun e he => by simp [upd, he])
    omega
  · unfold upd at he
    split at he
    · cases he
    · have := h.lo e he
      omega
/-- A number that came, told off f and c. -/
theorem came_of {l : List Nat} {k x c : Nat} {f : Nat → Bool} (ht : Tells (came l k) c f) (hp : ∀ i, 1 ≤ i → i ≤ c → came l k i = true) (h1 : 1 ≤ x) (h : x ≤ c ∨ f x = true) : came l k x = true := by
  rcases h with h | h
  · exact hp x h1 h
  · rw [ht x] at h
    simp at h
    exact h.1
theorem came_not {l : List Nat} {k x c : Nat} {f : Nat → Bool} (ht : Tells (came l k) c f) (h1 : c < x) (h : f x = false) : came l k x = false := by
  rw [ht x, decide_eq_true h1] at h
  simpa using h
theorem came_mono {l : List Nat} {k d : Nat} (h : came l k d = true) : came l (k + 1) d = true := by
  cases hx : l[k]? with
  | none =>
    unfold came at h ⊢
    rw [List.take_add_one, hx]
    simpa using h
  | some x =>
    rw [came_succ hx, h]
    rfl
theorem runs_tells {p f : Nat → Bool} {c k : Nat} (ht : Tells p c f) : runs f c k = runs p c k := runs_congr fun i hi => by rw [ht, decide_eq_true (by omega), Bool.and_true]
theorem tells_top {l : List Nat} {k c top n : Nat} {f : Nat → Bool} (ht : Tells (came l k) c f) (hq : QF c top n f) (htop : top = topOf l k) (hn : n ≠ 0) : f top = true := by
  have h1 : ∃ d, f d = true := by
    by_cases h : ∃ d, f d = true
    · exact h
    · have h0 : cnt f = 0 := cnt_none fun d _ => by
        cases hd : f d with
        | false => rfl
        | true => exact absurd ⟨d, hd⟩ h
      have := hq.n
      omega
  obtain ⟨d, hd⟩ := h1
  obtain ⟨h2, h3⟩ := hq.lo d hd
  subst htop
  rw [ht, decide_eq_true (by omega), topOf_mem (by omega)]
  rfl
end Go.Proofs.YtbmnpadpjbcljaaDoor
