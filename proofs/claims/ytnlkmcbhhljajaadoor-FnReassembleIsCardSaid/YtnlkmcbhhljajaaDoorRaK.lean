/- The reassembly queue's state in memory, and what steps leave of it. No condition. -/
import Derived.Test.YtnlkmcbhhljajaaDoorRaJ
namespace Go.Proofs.YtnlkmcbhhljajaaDoor
open Go.RowKit Go.Lib

/-- The block r, if any, holds cells of type t. -/
def RT (w : World) (r : Option Nat) (t : TypeId) : Prop := ∀ g, r = some g → ∃ cur fr, w.heap[g]? = some (.cells cur t fr)
theorem RT.of_row {w : World} {g : Nat} {t : TypeId} {xs : List Value} (h : Row w g t xs) : RT w (some g) t := by
  intro g' e
  injection e with e
  subst e
  exact ⟨_, _, h⟩
theorem RT.of_own {w : World} {B : Nat} {e : TypeId} {size n : Nat} {v : Value} {xs : List Value} (h : w.ownsRow B e size v n xs) : RT w v.ownBlock e := by
  intro g' e1
  rcases h.2 with ⟨rfl, _⟩ | ⟨g, cap, cur, rfl, _, hg, _⟩
  · cases e1
  · have e' : g = g' := by simpa [Value.ownBlock] using e1
    subst e'
    exact ⟨_, _, hg⟩
theorem RT.row {w : World} {r : Option Nat} {t t' : TypeId} {g : Nat} {xs : List Value} (h : RT w r t) (h' : Row w g t' xs) (hne : t ≠ t') : r ≠ some g := by
  intro e
  obtain ⟨cur, fr, hg⟩ := h g e
  have h1 : w.heap[g]? = some (.cells xs.toArray t' (0, 0)) := h'
  rw [h1] at hg
  injection hg with hg
  injection hg with _ e2
  exact hne e2.symm
theorem RT.own {w : World} {r : Option Nat} {t e : TypeId} {B size n : Nat} {v : Value} {xs : List Value} (h : RT w r t) (h' : w.ownsRow B e size v n xs) (hne : t ≠ e) : v.ownBlock = none ∨ v.ownBlock ≠ r := by
  rcases h'.2 with ⟨rfl, _⟩ | ⟨g, cap, cur, rfl, _, hg, _⟩
  · exact .inl rfl
  · right
    intro e1
    obtain ⟨cur', fr, hg'⟩ := h g e1.symm
    rw [hg] at hg'
    injection hg' with hg'
    injection hg' with _ e2
    exact hne e2.symm
theorem ChunkAt.step {first st : Nat} {w0 w w' : World} {c : Ck} {r : Option Nat} {t : TypeId} (h : ChunkAt first st w0 w c) (hg : w.grownBy w' r) (hr : RT w r t) (hne : t ≠ 68) : ChunkAt first st w0 w' c := by
  obtain ⟨A, n, cap, hrow, hs⟩ := h
  exact ⟨A, n, cap, hrow.grown hg (hr.row hrow hne).symm, hs⟩
theorem ChunkAt.below {first st : Nat} {w0 w w' : World} {c : Ck} (h : ChunkAt first st w0 w c) (hb : Below w.heap.size w w') : ChunkAt first st w0 w' c := by
  obtain ⟨A, n, cap, hrow, hs⟩ := h
  exact ⟨A, n, cap, hrow.below hb hrow.lt, hs⟩
theorem SetAt.step {first st B : Nat} {w0 w w' : World} {s : MSet} {r : Option Nat} {t : TypeId} (h : SetAt first st B w0 w s) (hg : w.grownBy w' r) (hr : RT w r t) (h1 : t ≠ 68)
    (h2 : t ≠ 78 ∨ r ≠ some s.sb) (h3 : t ≠ 48 ∨ s.rv.ownBlock ≠ r) : SetAt first st B w0 w' s :=
  ⟨h.row.grown hg (by rcases h2 with h2 | h2; exact (hr.row h.row h2).symm; exact h2.symm), h.own.kept hg (by rcases h3 with h3 | h3; exact hr.own h.own h3; exact .inr h3), fun c hc => (h.cks c hc).step hg hr h1⟩
theorem SetAt.below {first st B : Nat} {w0 w w' : World} {s : MSet} (h : SetAt first st B w0 w s) (hb : Below w.heap.size w w') : SetAt first st B w0 w' s :=
  ⟨h.row.below hb h.row.lt, own_below h.own hb, fun c hc => (h.cks c hc).below hb⟩

def QRow (Q si next : Nat) (ov : Value) (nb : Int) (w : World) : Prop :=
  ∃ G2 G3 G4 mp mq, Row w Q 61 (qcs si next ov (.slice (some ⟨G2, 0, none⟩) 0 0) (.slice none 0 0) (.slice (some ⟨G3, 0, none⟩) 0 0) (.slice (some ⟨G4, 0, none⟩) 0 0) mp mq nb)
def stp (s : MSet) : Value := rp (s.sb, s.k)
/-- The queue while chunks come. -/
structure QSt (first st B Q : Nat) (w0 w : World) (ov : Value) (nb : Int) (Gs : List MSet) : Prop where
  q : QRow Q st 0 ov nb w
  ov : w.ownsRow B 69 1 ov Gs.length (Gs.map stp)
  sets : ∀ s ∈ Gs, SetAt first st B w0 w s
  apart : Gs.Pairwise (fun a b => a.sb ≠ b.sb ∧ a.rv.ownBlock ≠ b.rv.ownBlock)
  below : Below w0.heap.size w0 w
  base : w0.heap.size ≤ B
  size : B ≤ w.heap.size
  hq : w0.heap.size ≤ Q
  hs : ∀ s ∈ Gs, w0.heap.size ≤ s.sb

theorem QRow.step {Q si next : Nat} {ov : Value} {nb : Int} {w w' : World} {r : Option Nat} {t : TypeId} (h : QRow Q si next ov nb w) (hg : w.grownBy w' r) (hr : RT w r t) (hne : t ≠ 61) : QRow Q si next ov nb w' := by
  obtain ⟨G2, G3, G4, mp, mq, hrow⟩ := h
  exact ⟨G2, G3, G4, mp, mq, hrow.grown hg (hr.row hrow hne).symm⟩
theorem QRow.rt {Q si next : Nat} {ov : Value} {nb : Int} {w : World} (h : QRow Q si next ov nb w) : RT w (some Q) 61 := by
  obtain ⟨G2, G3, G4, mp, mq, hrow⟩ := h
  exact RT.of_row hrow
theorem QRow.setOv {Q si next : Nat} {ov ov' : Value} {nb : Int} {w : World} (h : QRow Q si next ov nb w) : QRow Q si next ov' nb (w.setCell ⟨Q, 3, none⟩ ov') := by
  obtain ⟨G2, G3, G4, mp, mq, hrow⟩ := h
  exact ⟨G2, G3, G4, mp, mq, hrow.set 3 ov'⟩
theorem QRow.setNb {Q si next : Nat} {ov : Value} {nb nb' : Int} {w : World} (h : QRow Q si next ov nb w) : QRow Q si next ov nb' (w.setCell ⟨Q, 11, none⟩ (.int .u64 nb')) := by
  obtain ⟨G2, G3, G4, mp, mq, hrow⟩ := h
  exact ⟨G2, G3, G4, mp, mq, hrow.set 11 (.int .u64 nb')⟩
theorem QRow.below {Q si next : Nat} {ov : Value} {nb : Int} {w w' : World} (h : QRow Q si next ov nb w) (hb : Below w.heap.size w w') : QRow Q si next ov nb w' := by
  obtain ⟨G2, G3, G4, mp, mq, hrow⟩ := h
  exact ⟨G2, G3, G4, mp, mq, hrow.below hb hrow.lt⟩

/-- A step that makes memory alone. -/
theorem QSt.bstep {first st B Q : Nat} {w0 w w' : World} {ov : Value} {nb : Int} {Gs : List MSet} (h : QSt first st B Q w0 w ov nb Gs) (hb : Below w.heap.size w w') : QSt first st B Q w0 w' ov nb Gs :=
  ⟨h.q.below hb, own_below h.ov hb, fun s hs => (h.sets s hs).below hb, h.apart, h.below.trans (hb.mono h.below.size), h.base, Nat.le_trans h.size hb.size, h.hq, h.hs⟩
/-- The bytes are counted. -/
theorem QSt.nbytes {first st B Q : Nat} {w0 w : World} {ov : Value} {nb nb' : Int} {Gs : List MSet} (h : QSt first st B Q w0 w ov nb Gs) : QSt first st B Q w0 (w.setCell ⟨Q, 11, none⟩ (.int .u64 nb')) ov nb' Gs := by
  have hg : w.grownBy (w.setCell ⟨Q, 11, none⟩ (.int .u64 nb')) (some Q) := only_set (only_refl _ _) 11 _
  exact ⟨h.q.setNb, h.ov.kept hg (h.q.rt.own h.ov (by decide)), fun s hs => (h.sets s hs).step hg h.q.rt (by decide) (.inl (by decide)) (.inl (by decide)), h.apart, below_only h.below h.below.size hg h.hq, h.base, by have := hg.size; have := h.size; omega, h.hq, h.hs⟩
/-- A new set is put at the end of the list. -/
theorem QSt.append {first st B Q : Nat} {w0 w w1 : World} {ov ov' : Value} {nb : Int} {Gs : List MSet} {s : MSet} (h : QSt first st B Q w0 w ov nb Gs) (hs : SetAt first st B w0 w s) (hn : s.sb ∉ Gs.map (·.sb)) (hn2 : ∀ a ∈ Gs, a.rv.ownBlock ≠ s.rv.ownBlock) (hsb : w0.heap.size ≤ s.sb)
    (hown : w1.ownsRow B 69 1 ov' (Gs.length + 1) (Gs.map stp ++ [stp s])) (hg : w.grownBy w1 ov.ownBlock) : QSt first st B Q w0 (w1.setCell ⟨Q, 3, none⟩ ov') ov' nb (Gs ++ [s]) := by
  have hr := RT.of_own h.ov
  have hq1 := h.q.step hg hr (by decide)
  have hg2 : w1.grownBy (w1.setCell ⟨Q, 3, none⟩ ov') (some Q) := only_set (only_refl _ _) 3 _
  have hb1 : Below w0.heap.size w0 w1 := h.below.grown hg h.below.size (fun j hj => by have := (h.ov.lt j hj).1; have := h.base; omega)
  have hall : ∀ a ∈ Gs ++ [s], SetAt first st B w0 w a := fun a ha => by
    rcases List.mem_append.1 ha with h1 | h1
    · exact h.sets a h1
    · obtain rfl := List.mem_singleton.1 h1
      exact hs
  have z1 := hg.size
  have z2 := hg2.size
  have z3 := h.size
  refine ⟨hq1.setOv, ?_, fun a ha => ((hall a ha).step hg hr (by decide) (.inl (by decide)) (.inl (by decide))).step hg2 hq1.rt (by decide) (.inl (by decide)) (.inl (by decide)), ?_, below_only hb1 hb1.size hg2 h.hq, h.base, by omega, h.hq, ?_⟩
  · rw [List.length_append, List.map_append]
    exact hown.kept hg2 (hq1.rt.own hown (by decide))
  · rw [List.pairwise_append]
    refine ⟨h.apart, List.pairwise_singleton _ _, fun a ha b hb => ?_⟩
    obtain rfl := List.mem_singleton.1 hb
    exact ⟨fun e => hn (by rw [← e]; exact List.mem_map_of_mem ha), hn2 a ha⟩
  · intro a ha
    rcases List.mem_append.1 ha with h1 | h1
    · exact h.hs a h1
    · obtain rfl := List.mem_singleton.1 h1
      exact hsb
/-- The list is put into another order. -/
theorem QSt.order {first st B Q : Nat} {w0 w w1 : World} {ov : Value} {nb : Int} {Gs Gs' : List MSet} (h : QSt first st B Q w0 w ov nb Gs) (hp : Gs'.Perm Gs) (hown : w1.ownsRow B 69 1 ov Gs'.length (Gs'.map stp)) (hg : w.grownBy w1 ov.ownBlock) : QSt first st B Q w0 w1 ov nb Gs' := by
  have hr := RT.of_own h.ov
  have z1 := hg.size
  have z3 := h.size
  exact ⟨h.q.step hg hr (by decide), hown, fun s hs => (h.sets s (hp.mem_iff.1 hs)).step hg hr (by decide) (.inl (by decide)) (.inl (by decide)), h.apart.perm hp.symm (fun h => ⟨h.1.symm, h.2.symm⟩),
    h.below.grown hg h.below.size (fun j hj => by have := (h.ov.lt j hj).1; have := h.base; omega), h.base, by omega, h.hq, fun s hs => h.hs s (hp.mem_iff.1 hs)⟩
end Go.Proofs.YtnlkmcbhhljajaaDoor
