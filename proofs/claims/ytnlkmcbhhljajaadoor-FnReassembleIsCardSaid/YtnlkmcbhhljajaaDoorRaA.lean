/- Plain mathematics: messages cut into pieces; the sets of a queue that has seen pieces in some order. No program in sight. No condition. -/
import Derived.Test.YtnlkmcbhhljajaaDoorRaG
import Derived.Test.YtnlkmcbhhljajaaDoorRaX
namespace Go.Proofs.YtnlkmcbhhljajaaDoor

/-- The j-th piece of a message. -/
def pc (size k t : Nat) (m : List UInt8) (j : Nat) : Pc := ⟨t + j, k, decide (j = 0), decide (m.length ≤ (j + 1) * size), (m.drop (j * size)).take size⟩
/-- How many pieces a message has. -/
def npc (size : Nat) (m : List UInt8) : Nat := (m.length + size - 1) / size
def cutm (size k t : Nat) (m : List UInt8) : List Pc := (List.range (npc size m)).map (pc size k t m)
/-- The pieces of messages, in order. -/
def allp (size : Nat) : Nat → Nat → List (List UInt8) → List Pc
  | _, _, [] => []
  | k, t, m :: ms => cutm size k t m ++ allp size (k + 1) (t + npc size m) ms

theorem npc_lt {size : Nat} {m : List UInt8} (hs : 1 ≤ size) (j : Nat) : j < npc size m ↔ j * size < m.length := by
  unfold npc
  rw [Nat.lt_iff_add_one_le, Nat.le_div_iff_mul_le (by omega), Nat.add_mul]
  omega
theorem npc_le {size : Nat} {m : List UInt8} (hs : 1 ≤ size) : npc size m ≤ m.length := by
  rcases Nat.eq_zero_or_pos (npc size m) with h | h
  · omega
  · have h1 := (npc_lt (size := size) (m := m) hs (npc size m - 1)).1 (by omega)
    have h2 : npc size m - 1 ≤ (npc size m - 1) * size := Nat.le_mul_of_pos_right _ (by omega)
    omega
theorem cutm_length (size k t : Nat) (m : List UInt8) : (cutm size k t m).length = npc size m := by simp [cutm]
theorem cutm_mem {size k t : Nat} {m : List UInt8} {p : Pc} (h : p ∈ cutm size k t m) : ∃ j, j < npc size m ∧ p = pc size k t m j := by
  obtain ⟨j, hj, rfl⟩ := List.mem_map.1 h
  exact ⟨j, List.mem_range.1 hj, rfl⟩
theorem cutm_get {size k t : Nat} {m : List UInt8} {j : Nat} (h : j < npc size m) : (cutm size k t m)[j]? = some (pc size k t m j) := by
  unfold cutm
  rw [List.getElem?_map, List.getElem?_range h]
  rfl
theorem allp_snoc (size : Nat) (m : List UInt8) : ∀ (ms : List (List UInt8)) (k t : Nat), allp size k t (ms ++ [m]) = allp size k t ms ++ cutm size (k + ms.length) (t + (allp size k t ms).length) m := by
  intro ms
  induction ms with
  | nil => intro k t; simp [allp]
  | cons a ms ih =>
    intro k t
    simp only [List.cons_append, allp, ih, List.append_assoc, List.length_cons, List.length_append, cutm_length]
    rw [show k + 1 + ms.length = k + (ms.length + 1) by omega, Nat.add_assoc]
theorem allp_mem {size : Nat} {p : Pc} : ∀ {ms : List (List UInt8)} {k t : Nat}, p ∈ allp size k t ms → k ≤ p.k ∧ p.k < k + ms.length ∧ t ≤ p.t ∧ p.t < t + (allp size k t ms).length := by
  intro ms
  induction ms with
  | nil => intro k t h; cases h
  | cons a ms ih =>
    intro k t h
    simp only [allp, List.mem_append, List.length_append, cutm_length, List.length_cons] at h ⊢
    rcases h with h | h
    · obtain ⟨j, hj, rfl⟩ := cutm_mem h
      simp only [pc]
      omega
    · have := ih h
      omega
theorem allp_sorted (size : Nat) : ∀ (ms : List (List UInt8)) (k t : Nat), (allp size k t ms).Pairwise (fun a b => a.t < b.t) := by
  intro ms
  induction ms with
  | nil => intro k t; exact List.Pairwise.nil
  | cons a ms ih =>
    intro k t
    unfold allp
    rw [List.pairwise_append]
    refine ⟨?_, ih _ _, fun p hp q hq => ?_⟩
    · unfold cutm
      rw [List.pairwise_map]
      refine List.Pairwise.imp ?_ (List.pairwise_lt_range)
      intro x y h
      simp only [pc]
      omega
    · obtain ⟨j, hj, rfl⟩ := cutm_mem hp
      have := allp_mem hq
      simp only [pc]
      omega
/-- How many pieces lie before the i-th message. -/
def offp (size : Nat) (ms : List (List UInt8)) (i : Nat) : Nat := (allp size 0 0 (ms.take i)).length
theorem filter_none {α : Type} {f : α → Bool} : ∀ {l : List α}, (∀ a ∈ l, f a = false) → l.filter f = [] := by
  intro l h
  rw [List.filter_eq_nil_iff]
  intro a ha
  rw [h a ha]
  exact Bool.false_ne_true
theorem filter_all {α : Type} {f : α → Bool} {l : List α} (h : ∀ a ∈ l, f a = true) : l.filter f = l := List.filter_eq_self.2 h
theorem allp_filter (size : Nat) : ∀ (ms : List (List UInt8)) (k t i : Nat) (m : List UInt8), ms[i]? = some m → (allp size k t ms).filter (fun p => decide (p.k = k + i)) = cutm size (k + i) (t + (allp size k t (ms.take i)).length) m := by
  intro ms
  induction ms with
  | nil => intro k t i m h; simp at h
  | cons a ms ih =>
    intro k t i m h
    unfold allp
    rw [List.filter_append]
    cases i with
    | zero =>
      simp only [List.getElem?_cons_zero, Option.some.injEq] at h
      subst h
      rw [filter_all (fun p hp => by obtain ⟨j, _, rfl⟩ := cutm_mem hp; simp [pc]), filter_none (fun p hp => by have := allp_mem hp; simp; omega)]
      simp [allp]
    | succ i =>
      simp only [List.getElem?_cons_succ] at h
      rw [filter_none (fun p hp => by obtain ⟨j, _, rfl⟩ := cutm_mem hp; simp [pc])]
      have := ih (k + 1) (t + npc size a) i m h
      rw [show k + (i + 1) = k + 1 + i by omega, List.nil_append, this]
      simp only [List.take_succ_cons, allp, List.length_append, cutm_length, Nat.add_assoc]
theorem allp_of {size : Nat} {ms : List (List UInt8)} {p : Pc} (h : p ∈ allp size 0 0 ms) : ∃ m, ms[p.k]? = some m ∧ p ∈ cutm size p.k (offp size ms p.k) m := by
  have h1 := allp_mem h
  have h2 : ms[p.k]? = some (ms[p.k]'(by omega)) := List.getElem?_eq_getElem (by omega)
  refine ⟨_, h2, ?_⟩
  have h3 := allp_filter size ms 0 0 p.k _ h2
  simp only [Nat.zero_add] at h3
  unfold offp
  rw [← h3, List.mem_filter]
  exact ⟨h, by simp⟩
/-- Whether a piece is a whole message is told by its message. -/
theorem cutm_one {size k t : Nat} {m : List UInt8} {p : Pc} (hs : 1 ≤ size) (h : p ∈ cutm size k t m) : (p.b && p.e) = decide (m.length ≤ size) := by
  obtain ⟨j, hj, rfl⟩ := cutm_mem h
  rw [npc_lt hs] at hj
  simp only [pc]
  rw [Bool.eq_iff_iff]
  simp only [Bool.and_eq_true, decide_eq_true_eq]
  constructor
  · rintro ⟨rfl, h⟩
    omega
  · intro h
    have h0 : j = 0 := by
      rcases Nat.eq_zero_or_pos j with h1 | h1
      · exact h1
      · have : size ≤ j * size := Nat.le_mul_of_pos_left _ h1
        omega
    subst h0
    exact ⟨rfl, by omega⟩
theorem cutm_single {size k t : Nat} {m : List UInt8} {p q : Pc} (hs : 1 ≤ size) (hp : p ∈ cutm size k t m) (hq : q ∈ cutm size k t m) (h : (p.b && p.e) = true) : p = q := by
  rw [cutm_one hs hp, decide_eq_true_eq] at h
  have key : ∀ r ∈ cutm size k t m, r = pc size k t m 0 := fun r hr => by
    obtain ⟨j, hj, rfl⟩ := cutm_mem hr
    rw [npc_lt hs] at hj
    have h0 : j = 0 := by
      rcases Nat.eq_zero_or_pos j with h1 | h1
      · exact h1
      · have : size ≤ j * size := Nat.le_mul_of_pos_left _ h1
        omega
    rw [h0]
  rw [key p hp, key q hq]
theorem cutm_join {size : Nat} (hs : 1 ≤ size) (k t : Nat) (m : List UInt8) : ((cutm size k t m).map fun p => p.u).flatten = m := by
  have key : ∀ n, ((((List.range n).map (pc size k t m))).map fun p => p.u).flatten = m.take (n * size) := by
    intro n
    induction n with
    | zero => simp
    | succ n ih =>
      rw [List.range_succ, List.map_append, List.map_append, List.flatten_append, ih, Nat.succ_mul, List.take_add]
      simp [pc]
  unfold cutm
  rw [key, List.take_of_length_le]
  have h := npc_lt (m := m) hs (npc size m)
  omega
theorem allp_length {size : Nat} (hs : 1 ≤ size) : ∀ (ms : List (List UInt8)) (k t : Nat), (∀ m ∈ ms, m.length ≤ 200) → (allp size k t ms).length ≤ ms.length * 200 := by
  intro ms
  induction ms with
  | nil => intro k t _; simp [allp]
  | cons a ms ih =>
    intro k t h
    have h1 := ih (k + 1) (t + npc size a) (fun m hm => h m (List.mem_cons_of_mem _ hm))
    have h2 := h a (List.mem_cons_self ..)
    have h3 := npc_le (m := a) hs
    simp only [allp, List.length_append, cutm_length, List.length_cons, Nat.add_mul]
    omega
end Go.Proofs.YtnlkmcbhhljajaaDoor
