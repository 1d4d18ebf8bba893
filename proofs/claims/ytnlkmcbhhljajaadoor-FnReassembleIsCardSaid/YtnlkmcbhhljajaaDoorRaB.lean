/- Plain mathematics: the sets of a queue that has seen pieces in some order; what they are when all have been seen. No program in sight. No condition. -/
import Derived.Test.YtnlkmcbhhljajaaDoorRaA
namespace Go.Proofs.YtnlkmcbhhljajaaDoor

/-- The sets hold the pieces that have been seen. -/
structure Seen (done : List Pc) (Gs : List MSet) : Prop where
  sorted : Gs.Pairwise (fun a b => a.k < b.k)
  sets : ∀ s ∈ Gs, s.cs ≠ [] ∧ s.cs.Pairwise (fun a b => a.2.t ≤ b.2.t) ∧ (s.cs.map (·.2)).Perm (done.filter fun p => decide (p.k = s.k))
  all : ∀ p ∈ done, ∃ s ∈ Gs, s.k = p.k

theorem Seen.nil : Seen [] [] := ⟨List.Pairwise.nil, fun s h => (by cases h), fun p h => (by cases h)⟩
theorem Seen.mem {done : List Pc} {Gs : List MSet} (h : Seen done Gs) {s : MSet} (hs : s ∈ Gs) {c : Ck} (hc : c ∈ s.cs) : c.2 ∈ done ∧ c.2.k = s.k := by
  have h1 := (h.sets s hs).2.2.mem_iff.1 (List.mem_map_of_mem hc)
  rw [List.mem_filter, decide_eq_true_eq] at h1
  exact h1
theorem Seen.ne {done : List Pc} {G1 G2 : List MSet} {s : MSet} (h : Seen done (G1 ++ s :: G2)) : ∀ a ∈ G1 ++ G2, a.k ≠ s.k := by
  have h1 := List.pairwise_append.1 h.sorted
  have h2 := List.pairwise_cons.1 h1.2.1
  intro a ha
  rcases List.mem_append.1 ha with ha | ha
  · have := h1.2.2 a ha s (List.mem_cons_self ..)
    omega
  · have := h2.1 a ha
    omega
theorem pair_lt : ∀ {l : List Nat}, l.Pairwise (· ≤ ·) → l.Nodup → l.Pairwise (· < ·) := by
  intro l
  induction l with
  | nil => intro _ _; exact List.Pairwise.nil
  | cons a l ih =>
    intro h1 h2
    obtain ⟨a1, b1⟩ := List.pairwise_cons.1 h1
    obtain ⟨a2, b2⟩ := List.nodup_cons.1 h2
    refine List.pairwise_cons.2 ⟨fun x hx => ?_, ih b1 b2⟩
    have := a1 x hx
    have : a ≠ x := fun e => a2 (e ▸ hx)
    omega
theorem lt_nodup : ∀ {l : List Nat}, l.Pairwise (· < ·) → l.Nodup := by
  intro l h
  exact h.imp (fun h => by omega)

/-- A piece has come of a message of which none had. -/
theorem Seen.one {done : List Pc} {Gs Gs' G1 G2 : List MSet} {p : Ck} {sb : Nat} {rv rv' : Value} {cs' : List Ck} (h : Seen done Gs) (hno : ∀ s ∈ Gs, s.k ≠ p.2.k)
    (hp : Gs'.Perm (Gs ++ [⟨sb, p.2.k, rv, []⟩])) (he : Gs' = G1 ++ ⟨sb, p.2.k, rv, []⟩ :: G2) (hs : Gs'.Pairwise (fun a b => a.k ≤ b.k)) (hc : cs'.Perm [p]) :
    Seen (done ++ [p.2]) (G1 ++ ⟨sb, p.2.k, rv', cs'⟩ :: G2) := by
  obtain rfl : cs' = [p] := by simpa using hc
  have hmem : ∀ a ∈ G1 ++ G2, a ∈ Gs := fun a ha => by
    have hp2 : (G1 ++ G2).Perm Gs := by
      have h1 : (⟨sb, p.2.k, rv, []⟩ :: (G1 ++ G2)).Perm (⟨sb, p.2.k, rv, []⟩ :: Gs) := by
        refine (List.perm_middle.symm.trans ?_).trans (List.perm_append_comm (l₁ := Gs) (l₂ := [⟨sb, p.2.k, rv, []⟩]))
        rw [← he]
        exact hp
      exact (List.perm_cons _).1 h1
    exact hp2.mem_iff.1 ha
  have hk : (Gs'.map (·.k)).Nodup := by
    rw [(hp.map (·.k)).nodup_iff, List.map_append, List.nodup_append]
    refine ⟨lt_nodup (List.pairwise_map.2 h.sorted), by simp, fun a ha b hb => ?_⟩
    obtain ⟨s, hs, rfl⟩ := List.mem_map.1 ha
    simp only [List.map_cons, List.map_nil, List.mem_singleton] at hb
    subst hb
    exact hno s hs
  have hst : (Gs'.map (·.k)).Pairwise (· < ·) := pair_lt (List.pairwise_map.2 hs) hk
  refine ⟨?_, fun s hs => ?_, fun q hq => ?_⟩
  · have e : (G1 ++ (⟨sb, p.2.k, rv', [p]⟩ : MSet) :: G2).map (·.k) = Gs'.map (·.k) := by rw [he]; simp
    rw [← List.pairwise_map (f := fun s : MSet => s.k) (R := (· < ·)), e]
    exact hst
  · have hnew : s = ⟨sb, p.2.k, rv', [p]⟩ ∨ s ∈ G1 ++ G2 := by
      rcases List.mem_append.1 hs with h1 | h1
      · exact .inr (List.mem_append_left _ h1)
      · rcases List.mem_cons.1 h1 with h2 | h2
        · exact .inl h2
        · exact .inr (List.mem_append_right _ h2)
    rcases hnew with rfl | ha
    · refine ⟨by simp, List.pairwise_singleton _ _, ?_⟩
      rw [List.filter_append, filter_none (l := done) (fun q hq => by
        obtain ⟨s, hs, e⟩ := h.all q hq
        have := hno s hs
        simp only [decide_eq_false_iff_not]
        omega)]
      simp
    · have h1 := h.sets s (hmem s ha)
      refine ⟨h1.1, h1.2.1, ?_⟩
      rw [List.filter_append, filter_none (l := [p.2]) (fun q hq => by
        obtain rfl := List.mem_singleton.1 hq
        have := hno s (hmem s ha)
        simp only [decide_eq_false_iff_not]
        omega), List.append_nil]
      exact h1.2.2
  · rcases List.mem_append.1 hq with h1 | h1
    · obtain ⟨s, hs, e⟩ := h.all q h1
      have h2 : s ∈ Gs' := hp.mem_iff.2 (List.mem_append_left _ hs)
      rw [he] at h2
      rcases List.mem_append.1 h2 with h3 | h3
      · exact ⟨s, List.mem_append_left _ h3, e⟩
      · rcases List.mem_cons.1 h3 with h4 | h4
        · exact absurd (by rw [h4]) (hno s hs)
        · exact ⟨s, List.mem_append_right _ (List.mem_cons_of_mem _ h4), e⟩
    · obtain rfl := List.mem_singleton.1 h1
      exact ⟨_, List.mem_append_right _ (List.mem_cons_self ..), rfl⟩

/-- A piece has come of a message of which others had. -/
theorem Seen.more {done : List Pc} {P1 P2 : List MSet} {s : MSet} {p : Ck} {rv' : Value} {cs' : List Ck} (h : Seen done (P1 ++ s :: P2)) (hk : s.k = p.2.k) (hc : cs'.Perm (s.cs ++ [p])) (hs : cs'.Pairwise (fun a b => a.2.t ≤ b.2.t)) :
    Seen (done ++ [p.2]) (P1 ++ ⟨s.sb, s.k, rv', cs'⟩ :: P2) := by
  have hne := h.ne
  refine ⟨?_, fun a ha => ?_, fun q hq => ?_⟩
  · have e : (P1 ++ (⟨s.sb, s.k, rv', cs'⟩ : MSet) :: P2).map (·.k) = (P1 ++ s :: P2).map (·.k) := by simp
    rw [← List.pairwise_map (f := fun s : MSet => s.k) (R := (· < ·)), e, List.pairwise_map]
    exact h.sorted
  · have hnew : a = ⟨s.sb, s.k, rv', cs'⟩ ∨ a ∈ P1 ++ P2 := by
      rcases List.mem_append.1 ha with h1 | h1
      · exact .inr (List.mem_append_left _ h1)
      · rcases List.mem_cons.1 h1 with h2 | h2
        · exact .inl h2
        · exact .inr (List.mem_append_right _ h2)
    rcases hnew with rfl | ha
    · have h1 := h.sets s (by simp)
      refine ⟨fun e => ?_, hs, ?_⟩
      · simp only at e
        subst e
        have := hc.length_eq
        simp at this
      · have h2 := hc.map (·.2)
        refine h2.trans ?_
        rw [List.map_append, List.filter_append]
        refine h1.2.2.append ?_
        simp [hk]
    · have ha' : a ∈ P1 ++ s :: P2 := by
        rcases List.mem_append.1 ha with h1 | h1
        · exact List.mem_append_left _ h1
        · exact List.mem_append_right _ (List.mem_cons_of_mem _ h1)
      have h1 := h.sets a ha'
      refine ⟨h1.1, h1.2.1, ?_⟩
      rw [List.filter_append, filter_none (l := [p.2]) (fun q hq => by
        obtain rfl := List.mem_singleton.1 hq
        have := hne a ha
        simp only [decide_eq_false_iff_not]
        omega), List.append_nil]
      exact h1.2.2
  · have key : ∀ b ∈ P1 ++ s :: P2, ∃ c ∈ P1 ++ (⟨s.sb, s.k, rv', cs'⟩ : MSet) :: P2, c.k = b.k := fun b hb => by
      rcases List.mem_append.1 hb with h1 | h1
      · exact ⟨b, List.mem_append_left _ h1, rfl⟩
      · rcases List.mem_cons.1 h1 with h2 | h2
        · exact ⟨_, List.mem_append_right _ (List.mem_cons_self ..), by rw [h2]⟩
        · exact ⟨b, List.mem_append_right _ (List.mem_cons_of_mem _ h2), rfl⟩
    rcases List.mem_append.1 hq with h1 | h1
    · obtain ⟨b, hb, e⟩ := h.all q h1
      obtain ⟨c, hc, e2⟩ := key b hb
      exact ⟨c, hc, by omega⟩
    · obtain rfl := List.mem_singleton.1 h1
      exact ⟨_, List.mem_append_right _ (List.mem_cons_self ..), hk⟩

/-- Numbers in ascending order below N are at most N. -/
theorem asc_length : ∀ {l : List Nat} {a N : Nat}, l.Pairwise (· < ·) → (∀ x ∈ l, a ≤ x ∧ x < N) → l.length ≤ N - a := by
  intro l
  induction l with
  | nil => intro a N _ _; simp
  | cons x l ih =>
    intro a N h hb
    obtain ⟨h1, h2⟩ := List.pairwise_cons.1 h
    have h3 := hb x (List.mem_cons_self ..)
    have h4 := ih (a := x + 1) (N := N) h2 (fun y hy => ⟨h1 y hy, (hb y (List.mem_cons_of_mem _ hy)).2⟩)
    simp only [List.length_cons]
    omega
/-- Two lists in ascending order with the same elements are one. -/
theorem asc_eq : ∀ {l m : List Nat}, l.Pairwise (· < ·) → m.Pairwise (· < ·) → (∀ x, x ∈ l ↔ x ∈ m) → l = m := by
  intro l
  induction l with
  | nil =>
    intro m _ _ h
    cases m with
    | nil => rfl
    | cons y m => exact absurd ((h y).2 (List.mem_cons_self ..)) (by simp)
  | cons x l ih =>
    intro m h1 h2 h
    cases m with
    | nil => exact absurd ((h x).1 (List.mem_cons_self ..)) (by simp)
    | cons y m =>
      obtain ⟨a1, b1⟩ := List.pairwise_cons.1 h1
      obtain ⟨a2, b2⟩ := List.pairwise_cons.1 h2
      have hxy : x = y := by
        rcases List.mem_cons.1 ((h x).1 (List.mem_cons_self ..)) with e | e
        · exact e
        · rcases List.mem_cons.1 ((h y).2 (List.mem_cons_self ..)) with e2 | e2
          · exact e2.symm
          · have := a1 y e2
            have := a2 x e
            omega
      subst hxy
      rw [ih b1 b2 (fun z => ?_)]
      have hz := h z
      simp only [List.mem_cons] at hz
      constructor
      · intro h3
        rcases hz.1 (.inr h3) with e | e
        · have := a1 z h3
          omega
        · exact e
      · intro h3
        rcases hz.2 (.inr h3) with e | e
        · have := a2 z h3
          omega
        · exact e
theorem cutm_whole {size k t : Nat} {m : List UInt8} {cs : List Ck} (hs : 1 ≤ size) (hm : m ≠ []) (h : cs.map (·.2) = cutm size k t m) : Whole cs := by
  have hl : cs.length = npc size m := by rw [← cutm_length size k t m, ← h, List.length_map]
  have hpos : 0 < npc size m := by rw [npc_lt hs]; have := List.length_pos_iff.2 hm; omega
  have hget : ∀ j c, cs[j]? = some c → j < npc size m ∧ c.2 = pc size k t m j := fun j c hc => by
    have hj := (List.getElem?_eq_some_iff.1 hc).1
    have h1 : (cs.map (·.2))[j]? = some c.2 := by rw [List.getElem?_map, hc]; rfl
    rw [h, cutm_get (by omega)] at h1
    injection h1 with h1
    exact ⟨by omega, h1.symm⟩
  refine ⟨fun e => ?_, fun c hc => ?_, fun c hc => ?_, fun j c d hc hd => ?_⟩
  · rw [e] at hl
    simp at hl
    omega
  · rw [(hget 0 c hc).2]
    simp [pc]
  · rw [(hget _ c hc).2, hl]
    simp only [pc, decide_eq_true_eq]
    have h1 := npc_lt (m := m) hs (npc size m)
    rw [show npc size m - 1 + 1 = npc size m by omega]
    omega
  · rw [(hget _ c hc).2, (hget _ d hd).2]
    simp only [pc]
    omega
/-- When all pieces have been seen, the j-th set is the j-th message. -/
theorem Seen.done {size : Nat} {ms : List (List UInt8)} {qs : List Pc} {Gs : List MSet} (hs : 1 ≤ size) (hm : ∀ m ∈ ms, m ≠ []) (h : Seen qs Gs) (hp : qs.Perm (allp size 0 0 ms)) :
    Gs.length = ms.length ∧ ∀ (j : Nat) (s : MSet) (m : List UInt8), Gs[j]? = some s → ms[j]? = some m → s.k = j ∧ Whole s.cs ∧ joined s.cs = m ∧ (∀ c ∈ s.cs, c.2 ∈ allp size 0 0 ms) ∧ s.cs.length ≤ m.length := by
  have hks : Gs.map (·.k) = List.range ms.length := by
    refine asc_eq (List.pairwise_map.2 h.sorted) List.pairwise_lt_range (fun x => ?_)
    rw [List.mem_range]
    constructor
    · intro hx
      obtain ⟨s, hs', rfl⟩ := List.mem_map.1 hx
      obtain ⟨h1, h2, h3⟩ := h.sets s hs'
      obtain ⟨c, hc⟩ := List.exists_mem_of_ne_nil _ h1
      obtain ⟨h4, h5⟩ := h.mem hs' hc
      have := allp_mem (hp.mem_iff.1 h4)
      omega
    · intro hx
      have hmx : ms[x]? = some ms[x] := List.getElem?_eq_getElem hx
      have hne := hm _ (List.getElem_mem hx)
      have hf := allp_filter size ms 0 0 x _ hmx
      simp only [Nat.zero_add] at hf
      have h0 : pc size x (offp size ms x) ms[x] 0 ∈ (allp size 0 0 ms).filter (fun p => decide (p.k = x)) := by
        rw [hf]
        exact List.mem_map_of_mem (List.mem_range.2 ((npc_lt hs 0).2 (by have := List.length_pos_iff.2 hne; omega)))
      obtain ⟨s, hs', e⟩ := h.all _ (hp.mem_iff.2 (List.mem_filter.1 h0).1)
      exact List.mem_map.2 ⟨s, hs', e⟩
  refine ⟨by rw [← List.length_map (f := fun s : MSet => s.k), hks, List.length_range], fun j s m hj hmj => ?_⟩
  have hjl := (List.getElem?_eq_some_iff.1 hmj).1
  have hk : s.k = j := by
    have h1 : (Gs.map (·.k))[j]? = some s.k := by rw [List.getElem?_map, hj]; rfl
    rw [hks, List.getElem?_range hjl] at h1
    injection h1 with h1
    exact h1.symm
  obtain ⟨h1, h2, h3⟩ := h.sets s (List.mem_of_getElem? hj)
  have hf := allp_filter size ms 0 0 j m hmj
  simp only [Nat.zero_add] at hf
  have hcut : s.cs.map (·.2) = cutm size j (offp size ms j) m := by
    refine sorted_one (fun p : Pc => p.t) ?_ (List.pairwise_map.2 h2) ?_
    · refine h3.trans ?_
      rw [hk]
      have := hp.filter (fun p => decide (p.k = j))
      rw [hf] at this
      exact this
    · have h4 := (allp_sorted size ms 0 0).filter (fun p => decide (p.k = j))
      rw [hf] at h4
      exact h4
  refine ⟨hk, cutm_whole hs (hm m (List.mem_of_getElem? hmj)) hcut, ?_, fun c hc => ?_, ?_⟩
  · have h5 := cutm_join hs j (offp size ms j) m
    rw [← hcut, List.map_map] at h5
    exact h5
  · exact hp.mem_iff.1 (h.mem (List.mem_of_getElem? hj) hc).1
  · rw [← List.length_map (f := fun c : Ck => c.2), hcut, cutm_length]
    exact npc_le hs
end Go.Proofs.YtnlkmcbhhljajaaDoor
