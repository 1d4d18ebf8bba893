/- The queue's state: a chunk is put into a set; a set is made. No condition. -/
import Derived.Test.YtnlkmcbhhljajaaDoorRaK
namespace Go.Proofs.YtnlkmcbhhljajaaDoor
open Go.RowKit Go.Lib

/-- A chunk has been put into a set of the list. -/
theorem QSt.added {first st B Q : Nat} {w0 w w' : World} {ov : Value} {nb : Int} {G1 G2 : List MSet} {s : MSet} {p : Ck} {z : Ending} (h : QSt first st B Q w0 w ov nb (G1 ++ s :: G2)) (ha : Added first st B w0 s p w z w') :
    (∃ b, z = .returned (.bool b)) ∧ ∃ rv' cs', cs'.Perm (s.cs ++ [p]) ∧ cs'.Pairwise (fun a b => a.2.t ≤ b.2.t) ∧ QSt first st B Q w0 w' ov nb (G1 ++ ⟨s.sb, s.k, rv', cs'⟩ :: G2) := by
  obtain ⟨b, rv', cs', rfl, pc, pw, hset, hrv, w1, w2, xs, g1, g2, o2, g3⟩ := ha
  refine ⟨⟨b, rfl⟩, rv', cs', pc, pw, ?_⟩
  have hs := h.sets s (by simp)
  have r1 := RT.of_own hs.own
  have hrow1 : Row w1 s.sb _ _ := hs.row.grown g1 (r1.row hs.row (by decide)).symm
  have r2 : RT w1 (some s.sb) 78 := RT.of_row hrow1
  have r3 := RT.of_own o2
  have hq3 := ((h.q.step g1 r1 (by decide)).step g2 r2 (by decide)).step g3 r3 (by decide)
  have hov1 := h.ov.kept g1 (r1.own h.ov (by decide))
  have hov2 := hov1.kept g2 (r2.own hov1 (by decide))
  have hov3 := hov2.kept g3 (r3.own hov2 (by decide))
  have happ := List.pairwise_append.1 h.apart
  have hcons := List.pairwise_cons.1 happ.2.1
  have hoth : ∀ a ∈ G1 ++ G2, a.sb ≠ s.sb ∧ a.rv.ownBlock ≠ s.rv.ownBlock := fun a ha => by
    rcases List.mem_append.1 ha with h1 | h1
    · exact happ.2.2 a h1 s (by simp)
    · have := hcons.1 a h1
      exact ⟨this.1.symm, this.2.symm⟩
  have hnew : ∀ a ∈ G1 ++ G2, a.rv.ownBlock ≠ rv'.ownBlock := fun a ha => by
    rcases hrv with e | ⟨g, e, hg⟩
    · rw [e]; exact (hoth a ha).2
    · rw [e]
      intro e2
      have hsa := h.sets a (by rcases List.mem_append.1 ha with h1 | h1 <;> simp [h1])
      have := (hsa.own.lt g e2).2
      omega
  have hall : ∀ a ∈ G1 ++ G2, SetAt first st B w0 w' a := fun a ha => by
    have hsa := h.sets a (by rcases List.mem_append.1 ha with h1 | h1 <;> simp [h1])
    obtain ⟨n1, n2⟩ := hoth a ha
    exact ((hsa.step g1 r1 (by decide) (.inl (by decide)) (.inr n2)).step g2 r2 (by decide) (.inr (fun e => n1 (by injection e with e; exact e.symm))) (.inl (by decide))).step g3 r3 (by decide) (.inl (by decide)) (.inr (hnew a ha))
  have z1 := g1.size
  have z2 := g2.size
  have z3 := g3.size
  have z4 := h.size
  have hB := h.base
  have b1 : Below w0.heap.size w0 w1 := h.below.grown g1 h.below.size (fun j hj => by have := (hs.own.lt j hj).1; omega)
  have b2 : Below w0.heap.size w0 w2 := below_only b1 b1.size g2 (h.hs s (by simp))
  have b3 : Below w0.heap.size w0 w' := b2.grown g3 b2.size (fun j hj => by have := (o2.lt j hj).1; omega)
  refine ⟨hq3, ?_, ?_, ?_, b3, h.base, by omega, h.hq, ?_⟩
  · have e : (G1 ++ (⟨s.sb, s.k, rv', cs'⟩ : MSet) :: G2).map stp = (G1 ++ s :: G2).map stp := by simp [stp]
    rw [e, show (G1 ++ (⟨s.sb, s.k, rv', cs'⟩ : MSet) :: G2).length = (G1 ++ s :: G2).length by simp]
    exact hov3
  · intro a ha
    rcases List.mem_append.1 ha with h1 | h1
    · exact hall a (List.mem_append_left _ h1)
    · rcases List.mem_cons.1 h1 with rfl | h2
      · exact hset
      · exact hall a (List.mem_append_right _ h2)
  · rw [List.pairwise_append, List.pairwise_cons]
    refine ⟨happ.1, ⟨fun a ha => ?_, hcons.2⟩, fun a ha c hc => ?_⟩
    · exact ⟨(hoth a (List.mem_append_right _ ha)).1.symm, (hnew a (List.mem_append_right _ ha)).symm⟩
    · rcases List.mem_cons.1 hc with rfl | h2
      · exact ⟨(hoth a (List.mem_append_left _ ha)).1, hnew a (List.mem_append_left _ ha)⟩
      · exact happ.2.2 a ha c (List.mem_cons_of_mem _ h2)
  · intro a ha
    rcases List.mem_append.1 ha with h1 | h1
    · exact h.hs a (List.mem_append_left _ h1)
    · rcases List.mem_cons.1 h1 with rfl | h2
      · exact h.hs s (by simp)
      · exact h.hs a (List.mem_append_right _ (List.mem_cons_of_mem _ h2))
end Go.Proofs.YtnlkmcbhhljajaaDoor
