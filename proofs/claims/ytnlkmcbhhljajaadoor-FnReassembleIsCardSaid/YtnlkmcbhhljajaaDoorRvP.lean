/- Plain mathematics behind the queue of numbers that came: words of bits as a ring, the first bit set, runs. No program in sight. No condition. -/
import Derived.Lib.TrailingZeros
namespace Go.Proofs.YtnlkmcbhhljajaaDoor
open Go.Lib

/-- The number d behind first, in 32 bits. -/
def tsnOf (first d : Nat) : Nat := (first + d) % 4294967296
/-- The word and the bit of a number. -/
def wix (t : Nat) : Nat := t / 64 % 625
def wof (t : Nat) : Nat := t % 64
def bitAt (ws : List Nat) (t : Nat) : Bool := (ws.getD (wix t) 0).testBit (wof t)

theorem tsnOf_lt (first d : Nat) : tsnOf first d < 4294967296 := Nat.mod_lt _ (by decide)
theorem wix_lt (t : Nat) : wix t < 625 := Nat.mod_lt _ (by decide)
theorem wof_lt (t : Nat) : wof t < 64 := Nat.mod_lt _ (by decide)
theorem tsnOf_tsnOf (first a b : Nat) : tsnOf (tsnOf first a) b = tsnOf first (a + b) := by unfold tsnOf; omega

theorem win_inj {first d e : Nat} (hf : first < 4294967296) (hd : d ≤ 1100) (he : e ≤ 1100) (h1 : wix (tsnOf first d) = wix (tsnOf first e)) (h2 : wof (tsnOf first d) = wof (tsnOf first e)) : d = e := by
  unfold wix tsnOf at h1
  unfold wof tsnOf at h2
  have a1 : (first + d) % 4294967296 = first + d ∨ ((first + d) % 4294967296 + 4294967296 = first + d) := by omega
  have a2 : (first + e) % 4294967296 = first + e ∨ ((first + e) % 4294967296 + 4294967296 = first + e) := by omega
  generalize (first + d) % 4294967296 = x at *
  generalize (first + e) % 4294967296 = y at *
  omega

/-- Within one word the numbers follow one another. -/
theorem tsnOf_word {first d j : Nat} (h : wof (tsnOf first d) + j < 64) : tsnOf first (d + j) = tsnOf first d + j ∧ wix (tsnOf first (d + j)) = wix (tsnOf first d) ∧ wof (tsnOf first (d + j)) = wof (tsnOf first d) + j := by
  unfold wof at h
  have e : tsnOf first (d + j) = tsnOf first d + j := by
    unfold tsnOf at h ⊢
    omega
  refine ⟨e, ?_, ?_⟩
  · rw [e]; unfold wix; omega
  · rw [e]; unfold wof; omega

/-- The words hold just the bits that f tells. -/
structure MaskOk (first : Nat) (ws : List Nat) (f : Nat → Bool) : Prop where
  len : ws.length = 625
  lt : ∀ w ∈ ws, w < 18446744073709551616
  bits : ∀ d, 1 ≤ d → d ≤ 1100 → bitAt ws (tsnOf first d) = f d

theorem MaskOk.word {first : Nat} {ws : List Nat} {f : Nat → Bool} (h : MaskOk first ws f) (t : Nat) : ws[wix t]? = some (ws.getD (wix t) 0) ∧ ws.getD (wix t) 0 < 18446744073709551616 := by
  have hl : wix t < ws.length := by rw [h.len]; exact wix_lt t
  have e : ws.getD (wix t) 0 = ws[wix t] := by simp [List.getD, hl]
  exact ⟨by rw [e]; exact List.getElem?_eq_getElem hl, by rw [e]; exact h.lt _ (List.getElem_mem hl)⟩

theorem testBit_pow (o k : Nat) : (2 ^ o).testBit k = decide (o = k) := by rw [Nat.testBit_two_pow]

theorem MaskOk.put {first : Nat} {ws : List Nat} {f : Nat → Bool} (h : MaskOk first ws f) (hf : first < 4294967296) {d : Nat} (hd : d ≤ 1100) (x : Nat) (hx : x < 18446744073709551616) (b : Bool)
    (hb : x.testBit (wof (tsnOf first d)) = b) (ho : ∀ k, k < 64 → k ≠ wof (tsnOf first d) → x.testBit k = (ws.getD (wix (tsnOf first d)) 0).testBit k) :
    MaskOk first (ws.set (wix (tsnOf first d)) x) (fun e => if e = d then b else f e) := by
  have hl : wix (tsnOf first d) < ws.length := by rw [h.len]; exact wix_lt _
  refine ⟨by simp [h.len], fun w hw => ?_, fun e h1 h2 => ?_⟩
  · rcases List.mem_or_eq_of_mem_set hw with hw | rfl
    · exact h.lt w hw
    · exact hx
  · by_cases he : e = d
    · subst he
      rw [if_pos rfl, ← hb]
      simp [bitAt, List.getD, hl]
    · rw [if_neg he, ← h.bits e h1 h2]
      unfold bitAt
      by_cases hw : wix (tsnOf first e) = wix (tsnOf first d)
      · have hne : wof (tsnOf first e) ≠ wof (tsnOf first d) := fun h2' => he (win_inj hf h2 hd hw h2')
        rw [hw]
        have := ho _ (wof_lt _) hne
        rw [← this]
        simp [List.getD, hl]
      · have : (ws.set (wix (tsnOf first d)) x).getD (wix (tsnOf first e)) 0 = ws.getD (wix (tsnOf first e)) 0 := by
          simp [List.getD, List.getElem?_set_ne (Ne.symm hw)]
        rw [this]

theorem MaskOk.set {first : Nat} {ws : List Nat} {f : Nat → Bool} (h : MaskOk first ws f) (hf : first < 4294967296) {d : Nat} (hd : d ≤ 1100) :
    MaskOk first (ws.set (wix (tsnOf first d)) (ws.getD (wix (tsnOf first d)) 0 ||| 2 ^ wof (tsnOf first d))) (fun e => if e = d then true else f e) := by
  refine h.put hf hd _ ?_ true ?_ ?_
  · exact Nat.or_lt_two_pow (n := 64) (h.word _).2 (Nat.pow_lt_pow_right (by decide) (wof_lt _))
  · simp
  · intro k _ hk
    rw [Nat.testBit_or, testBit_pow]
    simp [Ne.symm hk]

theorem MaskOk.clr {first : Nat} {ws : List Nat} {f : Nat → Bool} (h : MaskOk first ws f) (hf : first < 4294967296) {d : Nat} (hd : d ≤ 1100) :
    MaskOk first (ws.set (wix (tsnOf first d)) (ws.getD (wix (tsnOf first d)) 0 &&& (18446744073709551615 - 2 ^ wof (tsnOf first d)))) (fun e => if e = d then false else f e) := by
  have hlt : 2 ^ wof (tsnOf first d) < 2 ^ 64 := Nat.pow_lt_pow_right (by decide) (wof_lt _)
  have hc : ∀ k, (18446744073709551615 - 2 ^ wof (tsnOf first d)).testBit k = (decide (k < 64) && !decide (wof (tsnOf first d) = k)) := by
    intro k
    rw [show 18446744073709551615 - 2 ^ wof (tsnOf first d) = 2 ^ 64 - (2 ^ wof (tsnOf first d) + 1) by omega, Nat.testBit_two_pow_sub_succ hlt, testBit_pow]
  refine h.put hf hd _ ?_ false ?_ ?_
  · exact Nat.lt_of_le_of_lt Nat.and_le_left (h.word _).2
  · rw [Nat.testBit_and, hc]; simp
  · intro k h64 hk
    rw [Nat.testBit_and, hc]
    simp [h64, Ne.symm hk]

/-! ### the first bit set -/
theorem ctz_zero : ctz 64 0 = 64 := by simp [ctz]
theorem ctz_set {x : Nat} (h0 : x ≠ 0) (hx : x < 18446744073709551616) : ctz 64 x < 64 ∧ x.testBit (ctz 64 x) = true ∧ ∀ j, j < ctz 64 x → x.testBit j = false := by
  obtain ⟨m, hm, hk⟩ := ctzFrom_spec 64 x (by omega) hx
  have e : ctz 64 x = ctzFrom 64 x := by simp [ctz, h0]
  rw [e]
  generalize ctzFrom 64 x = k at hm hk
  refine ⟨hk, ?_, fun j hj => ?_⟩
  · rw [hm, Nat.mul_comm, Nat.testBit_mul_two_pow]
    simp [Nat.testBit_zero]
  · rw [hm, Nat.mul_comm, Nat.testBit_mul_two_pow]
    simp
    omega

/-- What a search for the first bit from place o on finds in a word. -/
theorem ctz_from {x o : Nat} (hx : x < 18446744073709551616) (ho : o < 64) :
    (ctz 64 (x >>> o) + o < 64 → x.testBit (ctz 64 (x >>> o) + o) = true ∧ ∀ j, j < ctz 64 (x >>> o) → x.testBit (j + o) = false) ∧
    (¬ ctz 64 (x >>> o) + o < 64 → ∀ k, o ≤ k → k < 64 → x.testBit k = false) ∧ ctz 64 (x >>> o) ≤ 64 := by
  have hy : x >>> o < 18446744073709551616 := Nat.lt_of_le_of_lt (Nat.shiftRight_le _ _) hx
  by_cases h0 : x >>> o = 0
  · rw [h0, ctz_zero]
    refine ⟨fun h => by omega, fun _ k h1 h2 => ?_, by omega⟩
    have : (x >>> o).testBit (k - o) = false := by rw [h0]; simp
    rw [Nat.testBit_shiftRight, show o + (k - o) = k by omega] at this
    exact this
  · obtain ⟨h1, h2, h3⟩ := ctz_set h0 hy
    generalize ctz 64 (x >>> o) = c at h1 h2 h3
    refine ⟨fun _ => ⟨?_, fun j hj => ?_⟩, fun h k hk1 hk2 => ?_, by omega⟩
    · rw [Nat.testBit_shiftRight, Nat.add_comm] at h2; exact h2
    · have := h3 j hj
      rw [Nat.testBit_shiftRight, Nat.add_comm] at this; exact this
    · have := h3 (k - o) (by omega)
      rw [Nat.testBit_shiftRight, show o + (k - o) = k by omega] at this
      exact this

/-- The search in the ring: what it says of the numbers from d on. -/
theorem MaskOk.scan {first : Nat} {ws : List Nat} {f : Nat → Bool} (h : MaskOk first ws f) {d : Nat} (h1 : 1 ≤ d) (h2 : d ≤ 1030) (b : Bool) (x : Nat) (hx : x < 18446744073709551616)
    (hb : ∀ k, k < 64 → x.testBit k = (b == (ws.getD (wix (tsnOf first d)) 0).testBit k)) :
    (ctz 64 (x >>> wof (tsnOf first d)) + wof (tsnOf first d) < 64 → f (d + ctz 64 (x >>> wof (tsnOf first d))) = b ∧ ∀ j, j < ctz 64 (x >>> wof (tsnOf first d)) → f (d + j) = !b) ∧
    (¬ ctz 64 (x >>> wof (tsnOf first d)) + wof (tsnOf first d) < 64 → ∀ j, j + wof (tsnOf first d) < 64 → f (d + j) = !b) ∧ ctz 64 (x >>> wof (tsnOf first d)) ≤ 64 := by
  obtain ⟨c1, c2, c3⟩ := ctz_from (o := wof (tsnOf first d)) hx (wof_lt _)
  have key : ∀ j, j + wof (tsnOf first d) < 64 → x.testBit (j + wof (tsnOf first d)) = (b == f (d + j)) := by
    intro j hj
    obtain ⟨_, e2, e3⟩ := tsnOf_word (first := first) (d := d) (j := j) (by omega)
    rw [hb _ hj, ← h.bits (d + j) (by omega) (by omega)]
    unfold bitAt
    rw [e2, e3, Nat.add_comm j]
  generalize ctz 64 (x >>> wof (tsnOf first d)) = c at c1 c2 c3
  refine ⟨fun hc => ?_, fun hc j hj => ?_, c3⟩
  · obtain ⟨a1, a2⟩ := c1 hc
    refine ⟨?_, fun j hj => ?_⟩
    · rw [key c hc] at a1
      cases b <;> simp at a1 <;> exact a1
    · have := a2 j hj
      rw [key j (by omega)] at this
      cases b <;> simp at this <;> simpa using this
  · have := c2 hc (j + wof (tsnOf first d)) (by omega) hj
    rw [key j hj] at this
    cases b <;> simp at this <;> simpa using this

/-! ### runs -/
/-- The last pair's second number. -/
def setLast (l : List (Nat × Nat)) (e : Nat) : List (Nat × Nat) := l.dropLast ++ [((l.getLast?.getD (0, 0)).1, e)]
/-- The runs of the numbers behind c that p tells, up to c + k, each by how far it is from c. -/
def runs (p : Nat → Bool) (c : Nat) : Nat → List (Nat × Nat)
  | 0 => []
  | k + 1 => if p (c + (k + 1)) then (if p (c + k) && decide (0 < k) then setLast (runs p c k) (k + 1) else runs p c k ++ [(k + 1, k + 1)]) else runs p c k

theorem runs_no {p : Nat → Bool} {c k : Nat} (h : p (c + (k + 1)) = false) : runs p c (k + 1) = runs p c k := by simp [runs, h]
theorem runs_new {p : Nat → Bool} {c k : Nat} (h : p (c + (k + 1)) = true) (h0 : k = 0 ∨ p (c + k) = false) : runs p c (k + 1) = runs p c k ++ [(k + 1, k + 1)] := by
  rcases h0 with rfl | h0
  · simp [runs, h]
  · simp [runs, h, h0]
theorem runs_more {p : Nat → Bool} {c k : Nat} (h : p (c + (k + 1)) = true) (h0 : 0 < k) (h1 : p (c + k) = true) : runs p c (k + 1) = setLast (runs p c k) (k + 1) := by simp [runs, h, h0, h1]
theorem runs_none {p : Nat → Bool} {c a b : Nat} (hab : a ≤ b) (h : ∀ i, a < i → i ≤ b → p (c + i) = false) : runs p c b = runs p c a := by
  obtain ⟨m, rfl⟩ : ∃ m, b = a + m := ⟨b - a, by omega⟩
  induction m with
  | zero => rfl
  | succ m ih => rw [← Nat.add_assoc, runs_no (by have := h (a + (m + 1)) (by omega) (by omega); simpa [Nat.add_assoc] using this), ih (by omega) (fun i h1 h2 => h i h1 (by omega))]
theorem setLast_snoc (l : List (Nat × Nat)) (a b e : Nat) : setLast (l ++ [(a, b)]) e = l ++ [(a, e)] := by simp [setLast]
theorem runs_run {p : Nat → Bool} {c s e : Nat} (hs : 1 ≤ s) (h0 : s = 1 ∨ p (c + (s - 1)) = false) (hse : s ≤ e) (h : ∀ i, s ≤ i → i ≤ e → p (c + i) = true) : runs p c e = runs p c (s - 1) ++ [(s, e)] := by
  obtain ⟨m, rfl⟩ : ∃ m, e = s + m := ⟨e - s, by omega⟩
  induction m with
  | zero =>
    obtain ⟨k, rfl⟩ : ∃ k, s = k + 1 := ⟨s - 1, by omega⟩
    rw [Nat.add_zero, runs_new (h _ (by omega) (by omega)) (by rcases h0 with h0 | h0; · exact .inl (by omega)
                                                               · exact .inr (by simpa using h0))]
    rfl
  | succ m ih =>
    have := ih (by omega) (fun i h1 h2 => h i h1 (by omega))
    rw [← Nat.add_assoc, runs_more (h _ (by omega) (by omega)) (by omega) (h _ (by omega) (by omega)), this, setLast_snoc]
/-- Behind a number that came, the last run ends there. -/
theorem runs_last {p : Nat → Bool} {c k : Nat} (hk : 0 < k) (h : p (c + k) = true) : ∃ l a, runs p c k = l ++ [(a, k)] := by
  obtain ⟨m, rfl⟩ : ∃ m, k = m + 1 := ⟨k - 1, by omega⟩
  by_cases h0 : m = 0 ∨ p (c + m) = false
  · exact ⟨_, _, runs_new h h0⟩
  · have h1 : 0 < m := by omega
    have h2 : p (c + m) = true := by
      cases hp : p (c + m) with
      | true => rfl
      | false => exact absurd (.inr hp) h0
    exact ⟨_, _, by rw [runs_more h h1 h2]; rfl⟩
theorem runs_le {p : Nat → Bool} {c k : Nat} : (runs p c k).length ≤ k := by
  induction k with
  | zero => simp [runs]
  | succ k ih =>
    unfold runs
    split
    · split
      · unfold setLast
        rename_i h
        simp only [List.length_append, List.length_dropLast, List.length_cons, List.length_nil]
        omega
      · simp; omega
    · omega
theorem runs_bound {p : Nat → Bool} {c k : Nat} : ∀ x ∈ runs p c k, x.1 ≤ k ∧ x.2 ≤ k := by
  induction k with
  | zero => simp [runs]
  | succ k ih =>
    intro x hx
    unfold runs at hx
    split at hx
    · split at hx
      · unfold setLast at hx
        rcases List.mem_append.1 hx with hx | hx
        · have := ih x (List.dropLast_subset _ hx); omega
        · obtain rfl := List.mem_singleton.1 hx
          cases hl : (runs p c k).getLast? with
          | none => simp
          | some y =>
            have := ih y (List.mem_of_getLast? hl)
            simp
            omega
      · rcases List.mem_append.1 hx with hx | hx
        · have := ih x hx; omega
        · obtain rfl := List.mem_singleton.1 hx
          simp
    · have := ih x hx; omega

/-! ### what came -/
/-- c is the last number up to which all came. -/
def Pre (p : Nat → Bool) (c : Nat) : Prop := (∀ i, 1 ≤ i → i ≤ c → p i = true) ∧ p (c + 1) = false
theorem Pre.unique {p : Nat → Bool} {a b : Nat} (ha : Pre p a) (hb : Pre p b) : a = b := by
  rcases Nat.lt_trichotomy a b with h | h | h
  · have := hb.1 (a + 1) (by omega) (by omega); rw [ha.2] at this; cases this
  · exact h
  · have := ha.1 (b + 1) (by omega) (by omega); rw [hb.2] at this; cases this
/-- Whether a number is among the first k. -/
def came (l : List Nat) (k : Nat) (d : Nat) : Bool := decide (d ∈ l.take k)
theorem came_succ {l : List Nat} {k x : Nat} (h : l[k]? = some x) (d : Nat) : came l (k + 1) d = (came l k d || decide (d = x)) := by
  unfold came
  rw [List.take_add_one, h]
  simp
/-- Those of the first k that came twice, in order. -/
def twice (l : List Nat) : Nat → List Nat
  | 0 => []
  | k + 1 => twice l k ++ match l[k]? with
    | some x => if came l k x then [x] else []
    | none => []
theorem twice_yes {l : List Nat} {k x : Nat} (h : l[k]? = some x) (hc : came l k x = true) : twice l (k + 1) = twice l k ++ [x] := by simp [twice, h, hc]
theorem twice_no {l : List Nat} {k x : Nat} (h : l[k]? = some x) (hc : came l k x = false) : twice l (k + 1) = twice l k := by simp [twice, h, hc]
theorem twice_le (l : List Nat) (k : Nat) : (twice l k).length ≤ k := by
  induction k with
  | zero => simp [twice]
  | succ k ih =>
    unfold twice
    rw [List.length_append]
    cases l[k]? with
    | none => simp; omega
    | some x => simp only; split <;> simp <;> omega
/-- The greatest of the first k, 0 of none. -/
def topOf (l : List Nat) : Nat → Nat
  | 0 => 0
  | k + 1 => max (topOf l k) (l[k]?.getD 0)
theorem topOf_ge {l : List Nat} {k d : Nat} (h : came l k d = true) : d ≤ topOf l k := by
  induction k with
  | zero => simp [came] at h
  | succ k ih =>
    unfold topOf
    cases hx : l[k]? with
    | none =>
      have : l.take (k + 1) = l.take k := by rw [List.take_add_one, hx]; simp
      unfold came at h ih
      rw [this] at h
      have := ih h
      omega
    | some x =>
      rw [came_succ hx] at h
      simp only [Bool.or_eq_true, decide_eq_true_eq] at h
      simp only [Option.getD_some]
      rcases h with h | rfl
      · have := ih h; omega
      · omega
theorem topOf_mem {l : List Nat} {k : Nat} (h : 0 < topOf l k) : came l k (topOf l k) = true := by
  induction k with
  | zero => simp [topOf] at h
  | succ k ih =>
    unfold topOf at h ⊢
    cases hx : l[k]? with
    | none =>
      have : l.take (k + 1) = l.take k := by rw [List.take_add_one, hx]; simp
      rw [hx] at h
      simp only [Option.getD_none, Nat.max_zero] at h ⊢
      have := ih h
      unfold came at this ⊢
      rw [‹l.take (k + 1) = l.take k›]
      exact this
    | some x =>
      rw [hx] at h
      simp only [Option.getD_some] at h ⊢
      rw [came_succ hx]
      rcases Nat.le_total (topOf l k) x with h1 | h1
      · rw [Nat.max_eq_right h1]; simp
      · rw [Nat.max_eq_left h1] at h ⊢
        rw [ih h]; simp
theorem topOf_le {l : List Nat} {m : Nat} (h : ∀ d ∈ l, d ≤ m) (k : Nat) : topOf l k ≤ m := by
  induction k with
  | zero => simp [topOf]
  | succ k ih =>
    unfold topOf
    cases hx : l[k]? with
    | none => simp; exact ih
    | some x => have := h x (List.mem_of_getElem? hx); simp; omega
theorem came_le {l : List Nat} {m : Nat} (h : ∀ d ∈ l, 1 ≤ d ∧ d ≤ m) {k d : Nat} (hc : came l k d = true) : 1 ≤ d ∧ d ≤ m := by
  unfold came at hc
  exact h d (List.mem_of_mem_take (by simpa using hc))

/-- How many numbers up to 1000 a predicate tells. -/
def cnt (f : Nat → Bool) : Nat := (List.range 1001).countP f
theorem countP_upd {f g : Nat → Bool} {x : Nat} : ∀ (l : List Nat), l.Nodup → x ∈ l → f x = false → g x = true → (∀ e, e ≠ x → g e = f e) → l.countP g = l.countP f + 1
  | [], _, hx, _, _, _ => by simp at hx
  | a :: r, hn, hx, hf, hg, he => by
    obtain ⟨ha, hn⟩ := List.nodup_cons.1 hn
    rw [List.countP_cons, List.countP_cons]
    by_cases hax : a = x
    · subst hax
      have : r.countP g = r.countP f := by
        apply List.countP_congr
        intro b hb
        rw [he b (by intro e; subst e; exact ha hb)]
      rw [this, hf, hg]
      simp
    · have hxr : x ∈ r := by
        rcases List.mem_cons.1 hx with h | h
        · exact absurd h.symm hax
        · exact h
      rw [countP_upd r hn hxr hf hg he, he a hax]
      omega
theorem cnt_add {f g : Nat → Bool} {x : Nat} (hx : x ≤ 1000) (hf : f x = false) (hg : g x = true) (he : ∀ e, e ≠ x → g e = f e) : cnt g = cnt f + 1 :=
  countP_upd _ List.nodup_range (List.mem_range.2 (by omega)) hf hg he
theorem cnt_zero {f : Nat → Bool} (h : cnt f = 0) {d : Nat} (hd : d ≤ 1000) : f d = false := by
  have h1 : (List.range 1001).countP f = 0 := h
  rw [List.countP_eq_zero] at h1
  have := h1 d (List.mem_range.2 (by omega))
  simpa using this
theorem cnt_pos {f : Nat → Bool} {d : Nat} (hd : d ≤ 1000) (h : f d = true) : 0 < cnt f := List.countP_pos_iff.2 ⟨d, List.mem_range.2 (by omega), h⟩
theorem cnt_le (f : Nat → Bool) : cnt f ≤ 1001 := by
  have := List.countP_le_length (p := f) (l := List.range 1001)
  simpa [cnt] using this
theorem cnt_none {f : Nat → Bool} (h : ∀ d, d ≤ 1000 → f d = false) : cnt f = 0 := by
  unfold cnt
  rw [List.countP_eq_zero]
  intro d hd
  rw [h d (by have := List.mem_range.1 hd; omega)]
  simp
end Go.Proofs.YtnlkmcbhhljajaaDoor
