/- spec.Received's state, step by step. No condition. -/
import Derived.Test.YtbmnpadpjbcljaaDoorRvM
namespace Go.Proofs.YtbmnpadpjbcljaaDoor
open Go.RowKit Go.Lib

theorem own_two {w : World} {B1 B2 : Nat} {e1 e2 : TypeId} {s1 s2 n1 n2 : Nat} {v1 v2 : Value} {xs1 xs2 : List Value} (h1 : w.ownsRow B1 e1 s1 v1 n1 xs1) (h2 : w.ownsRow B2 e2 s2 v2 n2 xs2) (hne : e1 ≠ e2) : v1.ownBlock = none ∨ v1.ownBlock ≠ v2.ownBlock := by
  rcases h1.2 with ⟨rfl, _⟩ | ⟨g1, c1, cur1, rfl, _, hg1, _⟩
  · exact .inl rfl
  · right
    rcases h2.2 with ⟨rfl, _⟩ | ⟨g2, c2, cur2, rfl, _, hg2, _⟩
    · intro e; cases e
    · intro e
      have e' : g1 = g2 := by simpa [Value.ownBlock] using e
      subst e'
      rw [hg1] at hg2
      injection hg2 with hg2
      injection hg2 with _ e2
      exact hne e2

structure SpSt (first : Nat) (w wr : World) (n : Nat) (p : Nat → Bool) (ts ga du : Value) (R : List (Nat × Nat)) (T : List Nat) : Prop where
  map : MapAt wr (w.heap.size + 1) n p
  out : Row wr (w.heap.size + 2) 27 [ts, .int .u32 0, ga, du]
  ga : wr.ownsRow (w.heap.size + 3) 32 2 ga R.length (gcells .i64 R)
  du : wr.ownsRow (w.heap.size + 3) 22 1 du T.length (dcs first T)
  res : Row wr w.heap.size 27 [.int .u32 0, .int .u32 0, .slice none 0 0, .slice none 0 0]
  below : Below w.heap.size w wr
  size : w.heap.size + 3 ≤ wr.heap.size

theorem SpSt.mark {first : Nat} {w wr w1 : World} {n m : Nat} {p q : Nat → Bool} {ts ga du : Value} {R : List (Nat × Nat)} {T : List Nat} (h : SpSt first w wr n p ts ga du R T) (hm : MapAt w1 (w.heap.size + 1) m q) (hg : wr.grownBy w1 (some (w.heap.size + 1))) :
    SpSt first w w1 m q ts ga du R T := by
  have hs := h.size
  have hs1 := hg.size
  exact ⟨hm, h.out.grown hg (by intro e; injection e with e; omega), h.ga.kept hg (.inr (own_apart h.ga (by omega))), h.du.kept hg (.inr (own_apart h.du (by omega))), h.res.grown hg (by intro e; injection e with e; omega),
    below_only h.below (by omega) hg (by omega), by omega⟩

theorem SpSt.alloc {first : Nat} {w wr : World} {n : Nat} {p : Nat → Bool} {ts ga du : Value} {R : List (Nat × Nat)} {T : List Nat} (h : SpSt first w wr n p ts ga du R T) (o : Obj) : SpSt first w (wr.alloc o) n p ts ga du R T := by
  have hs := h.size
  exact ⟨h.map.alloc o, h.out.alloc o, h.ga.alloc o, h.du.alloc o, h.res.alloc o, h.below.alloc (by omega) o, by rw [World.size_alloc]; omega⟩

theorem SpSt.dup {first : Nat} {w wr w1 : World} {n x : Nat} {p : Nat → Bool} {ts ga du du' : Value} {R : List (Nat × Nat)} {T : List Nat} (h : SpSt first w wr n p ts ga du R T) (hown : w1.ownsRow (w.heap.size + 3) 22 1 du' (T.length + 1) (dcs first T ++ [.int .u32 (tsnOf first x : Nat)])) (hg : wr.grownBy w1 du.ownBlock) :
    SpSt first w (w1.setCell ⟨w.heap.size + 2, 3, none⟩ du') n p ts ga du' R (T ++ [x]) := by
  have hs := h.size
  have hs1 := hg.size
  have h1 := h.map.kept hg (own_apart h.du (by omega)).symm
  have h2 := h.out.grown hg (own_apart h.du (by omega)).symm
  have h3 := h.ga.kept hg (own_two h.ga h.du (by decide))
  have h4 := h.res.grown hg (own_apart h.du (by omega)).symm
  have h5 : Below w.heap.size w w1 := h.below.grown hg (by omega) (fun j hj => by have := (h.du.lt j hj).1; omega)
  have hg2 : w1.grownBy (w1.setCell ⟨w.heap.size + 2, 3, none⟩ du') (some (w.heap.size + 2)) := only_set (only_refl _ _) 3 _
  refine ⟨h1.kept hg2 (by simp), h2.set 3 du', h3.kept hg2 (.inr (own_apart h3 (by omega))), ?_, h4.grown hg2 (by intro e; injection e with e; omega), below_only h5 (by omega) hg2 (by omega), by have := hg2.size; omega⟩
  rw [dcs_snoc, List.length_append]
  exact hown.kept hg2 (.inr (own_apart hown (by omega)))

theorem SpSt.gap {first : Nat} {w wr w1 : World} {n a b : Nat} {p : Nat → Bool} {ts ga du ga' : Value} {R : List (Nat × Nat)} {T : List Nat} (h : SpSt first w wr n p ts ga du R T) (hown : w1.ownsRow (w.heap.size + 3) 32 2 ga' (R.length + 1) (gcells .i64 R ++ [.int .i64 (a : Nat), .int .i64 (b : Nat)])) (hg : wr.grownBy w1 ga.ownBlock) :
    SpSt first w (w1.setCell ⟨w.heap.size + 2, 2, none⟩ ga') n p ts ga' du (R ++ [(a, b)]) T := by
  have hs := h.size
  have hs1 := hg.size
  have h1 := h.map.kept hg (own_apart h.ga (by omega)).symm
  have h2 := h.out.grown hg (own_apart h.ga (by omega)).symm
  have h3 := h.du.kept hg (own_two h.du h.ga (by decide))
  have h4 := h.res.grown hg (own_apart h.ga (by omega)).symm
  have h5 : Below w.heap.size w w1 := h.below.grown hg (by omega) (fun j hj => by have := (h.ga.lt j hj).1; omega)
  have hg2 : w1.grownBy (w1.setCell ⟨w.heap.size + 2, 2, none⟩ ga') (some (w.heap.size + 2)) := only_set (only_refl _ _) 2 _
  refine ⟨h1.kept hg2 (by simp), h2.set 2 ga', ?_, h3.kept hg2 (.inr (own_apart h3 (by omega))), h4.grown hg2 (by intro e; injection e with e; omega), below_only h5 (by omega) hg2 (by omega), by have := hg2.size; omega⟩
  rw [gcells_snoc, List.length_append]
  exact hown.kept hg2 (.inr (own_apart hown (by omega)))

theorem SpSt.ts {first : Nat} {w wr : World} {n : Nat} {p : Nat → Bool} {ts ts' ga du : Value} {R : List (Nat × Nat)} {T : List Nat} (h : SpSt first w wr n p ts ga du R T) :
    SpSt first w (wr.setCell ⟨w.heap.size + 2, 0, none⟩ ts') n p ts' ga du R T := by
  have hs := h.size
  have hg2 : wr.grownBy (wr.setCell ⟨w.heap.size + 2, 0, none⟩ ts') (some (w.heap.size + 2)) := only_set (only_refl _ _) 0 _
  exact ⟨h.map.kept hg2 (by simp), h.out.set 0 ts', h.ga.kept hg2 (.inr (own_apart h.ga (by omega))), h.du.kept hg2 (.inr (own_apart h.du (by omega))), h.res.grown hg2 (by intro e; injection e with e; omega), below_only h.below (by omega) hg2 (by omega), by have := hg2.size; omega⟩

theorem gcells_last (k : IntKind) (L : List (Nat × Nat)) (a b e : Nat) : (gcells k (L ++ [(a, b)])).set (L.length * 2 + 1) (.int k (e : Nat)) = gcells k (L ++ [(a, e)]) := by
  rw [gcells_snoc, gcells_snoc, List.set_append_right _ _ (by rw [gcells_length]; omega), gcells_length, show L.length * 2 + 1 - L.length * 2 = 1 by omega]
  rfl

theorem SpSt.last {first : Nat} {w wr : World} {n g cap a b e : Nat} {p : Nat → Bool} {ts du : Value} {L : List (Nat × Nat)} {T : List Nat} (h : SpSt first w wr n p ts (.slice (some ⟨g, 0, none⟩) (L.length + 1) cap) du (L ++ [(a, b)]) T) :
    SpSt first w (wr.setCell ⟨g, L.length * 2 + 1, none⟩ (.int .i64 (e : Nat))) n p ts (.slice (some ⟨g, 0, none⟩) (L.length + 1) cap) du (L ++ [(a, e)]) T := by
  have hs := h.size
  have hga := h.ga
  rw [List.length_append] at hga
  obtain ⟨h1, hg2⟩ := World.ownsRow.stored hga (L.length * 2 + 1) (.int .i64 (e : Nat))
  rw [gcells_last] at h1
  have hlt := (hga.lt g rfl).1
  refine ⟨h.map.kept hg2 (by intro e; injection e with e; omega), h.out.grown hg2 (by intro e; injection e with e; omega), by rw [List.length_append]; exact h1, h.du.kept hg2 (own_two h.du h.ga (by decide)), h.res.grown hg2 (by intro e; injection e with e; omega), below_only h.below (by omega) hg2 (by omega), by have := hg2.size; omega⟩
end Go.Proofs.YtbmnpadpjbcljaaDoor
