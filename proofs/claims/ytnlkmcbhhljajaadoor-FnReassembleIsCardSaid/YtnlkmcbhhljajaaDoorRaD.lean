/- The contract of push in the words of pieces that have been seen. Conditions: the piece is one of the messages' own, and new. -/
import Derived.Test.YtnlkmcbhhljajaaDoorRaB
namespace Go.Proofs.YtnlkmcbhhljajaaDoor
open Go.RowKit Go.Lib

/-- Few and short messages. -/
structure Small (size : Nat) (ms : List (List UInt8)) : Prop where
  size : 1 ≤ size
  few : ms.length ≤ 20
  ne : ∀ m ∈ ms, m ≠ []
  short : ∀ m ∈ ms, m.length ≤ 200
theorem Small.len {size : Nat} {ms : List (List UInt8)} (h : Small size ms) : (allp size 0 0 ms).length ≤ 4000 := by
  have := allp_length h.size ms 0 0 h.short
  have := h.few
  omega
theorem Small.mem {size : Nat} {ms : List (List UInt8)} (h : Small size ms) {p : Pc} (hp : p ∈ allp size 0 0 ms) : p.k < 20 ∧ p.t ≤ 4000 := by
  have := allp_mem hp
  have := h.few
  have := h.len
  omega

/-- The queue has seen pieces. -/
def QSeen (first st B Q : Nat) (w0 : World) (done : List Pc) (w : World) : Prop := ∃ ov nb Gs, QSt first st B Q w0 w ov nb Gs ∧ Seen done Gs

theorem Seen.room {size : Nat} {ms : List (List UInt8)} {done : List Pc} {Gs : List MSet} (hS : Small size ms) (h : Seen done Gs) (hd : ∀ q ∈ done, q ∈ allp size 0 0 ms) : Gs.length ≤ 20 ∧ ∀ s ∈ Gs, s.k ≤ 20 ∧ s.cs.length ≤ done.length := by
  have hk : ∀ s ∈ Gs, s.k < 20 := fun s hs => by
    obtain ⟨c, hc⟩ := List.exists_mem_of_ne_nil _ (h.sets s hs).1
    obtain ⟨h1, h2⟩ := h.mem hs hc
    have := hS.mem (hd _ h1)
    omega
  refine ⟨?_, fun s hs => ⟨by have := hk s hs; omega, ?_⟩⟩
  · have := asc_length (a := 0) (N := 20) (List.pairwise_map.2 h.sorted) (fun x hx => by
      obtain ⟨s, hs, rfl⟩ := List.mem_map.1 hx
      exact ⟨Nat.zero_le _, hk s hs⟩)
    simpa using this
  · have h1 := (h.sets s hs).2.2.length_eq
    rw [List.length_map] at h1
    have := List.length_filter_le (fun p : Pc => decide (p.k = s.k)) done
    omega

theorem push_seen (first st B Q size : Nat) (ms : List (List UInt8)) (w0 w : World) (done : List Pc) (p : Ck) (hS : Small size ms) (hf : first < 4294967296) (h : QSeen first st B Q w0 done w) (hd : ∀ q ∈ done, q ∈ allp size 0 0 ms) (hl : done.length ≤ 5000)
    (hp : ChunkAt first st w0 w p) (hm : p.2 ∈ allp size 0 0 ms) (hnew : ∀ q ∈ done, q.t ≠ p.2.t) :
    Calls Tryd.prog 13 #[.pointer (some ⟨Q, 0, none⟩), .pointer (some ⟨p.1, 0, none⟩)] w fun z w' => (∃ b, z = .returned (.bool b)) ∧ QSeen first st B Q w0 (done ++ [p.2]) w' := by
  obtain ⟨ov, nb, Gs, hq, hs⟩ := h
  obtain ⟨r1, r2⟩ := hs.room hS hd
  obtain ⟨b1, b2⟩ := hS.mem hm
  obtain ⟨m, hmm, hcm⟩ := allp_of hm
  have hown : ∀ s ∈ Gs, ∀ c ∈ s.cs, s.k = p.2.k → c.2 ∈ cutm size p.2.k (offp size ms p.2.k) m ∧ c.2 ∈ done := fun s h1 c h2 h3 => by
    obtain ⟨h4, h5⟩ := hs.mem h1 h2
    obtain ⟨m', e1, e2⟩ := allp_of (hd _ h4)
    rw [h5, h3] at e1 e2
    rw [hmm] at e1
    injection e1 with e1
    subst e1
    exact ⟨e2, h4⟩
  by_cases hfr : (p.2.b && p.2.e) = true
  · have hno : ∀ s ∈ Gs, s.k ≠ p.2.k := fun s h1 h2 => by
      obtain ⟨c, hc⟩ := List.exists_mem_of_ne_nil _ (hs.sets s h1).1
      obtain ⟨h3, h4⟩ := hown s h1 c hc h2
      have := cutm_single hS.size hcm h3 hfr
      exact hnew _ h4 (by rw [this])
    refine push_of (push_one first st B Q w0 w ov nb Gs p hf hq hp (by omega) (fun s hs => by have := (r2 s hs).1; omega) (by omega) (by omega) hfr hq.size) ?_
    rintro z w' ⟨hz, ov', nb', Gs', G1, G2, sb, rv, rv', cs', q1, q2, q3, q4, q5⟩
    exact ⟨hz, ov', nb', _, q5, hs.one hno q1 q2 q3 q4⟩
  · have hfr' : (p.2.b && p.2.e) = false := by simpa using hfr
    by_cases hex : ∃ s ∈ Gs, s.k = p.2.k
    · obtain ⟨s, h1, h2⟩ := hex
      obtain ⟨P1, P2, rfl⟩ := List.append_of_mem h1
      have hne := hs.ne
      obtain ⟨c0, ct, hct⟩ : ∃ c0 ct, s.cs = c0 :: ct := by
        cases e : s.cs with
        | nil => exact absurd e (hs.sets s h1).1
        | cons a l => exact ⟨a, l, rfl⟩
      obtain ⟨h3, h4⟩ := hown s h1 c0 (by rw [hct]; exact List.mem_cons_self ..) h2
      refine push_of (push_more first st B Q w0 w ov nb P1 P2 s p hf hq hp (by omega) (by omega) (by omega) hfr' hq.size (fun a ha => by have := hne a (List.mem_append_left _ ha); omega) h2 c0 (by rw [hct]; rfl) (by rw [cutm_one hS.size h3, ← cutm_one hS.size hcm]; exact hfr') (by have := (r2 s h1).2; omega) (fun c hc => ?_)) ?_
      · obtain ⟨e1, e2⟩ := hown s h1 c hc h2
        have := hS.mem (hd _ e2)
        exact ⟨by omega, hnew _ e2⟩
      · rintro z w' ⟨hz, ov', nb', rv', cs', q1, q2, q3⟩
        exact ⟨hz, ov', nb', _, q3, hs.more h2 q1 q2⟩
    · have hno : ∀ s ∈ Gs, s.k ≠ p.2.k := fun s h1 h2 => hex ⟨s, h1, h2⟩
      refine push_of (push_first first st B Q w0 w ov nb Gs p hf hq hp (by omega) (fun s hs => by have := (r2 s hs).1; omega) (by omega) (by omega) hfr' hq.size hno) ?_
      rintro z w' ⟨hz, ov', nb', Gs', G1, G2, sb, rv, rv', cs', q1, q2, q3, q4, q5⟩
      exact ⟨hz, ov', nb', _, q5, hs.one hno q1 q2 q3 q4⟩
end Go.Proofs.YtnlkmcbhhljajaaDoor
