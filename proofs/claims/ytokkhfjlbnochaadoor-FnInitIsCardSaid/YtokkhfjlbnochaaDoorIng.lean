/- A list of parameters that grows in a chunk of INIT: what holds, and what keeps it. No condition. -/
import Derived.Test.YtokkhfjlbnochaaDoorInc
namespace Go.Proofs.YtokkhfjlbnochaaDoor
open Go.RowKit Go.Lib

theorem pmT : ElT Tryd.prog 56 63 .nilIface 1 16 := ⟨Tryd.underlying56, by kernel_rfl, rfl, by decide⟩

/-- Where a parameter lies: in a new block, apart from the chunk's block gc and from the list's own block; its value lies in none of these and in no parameter's block. -/
def KLies (cs : List Kp) (c : Kp) (gc U : Nat) (va : Value) (m : Nat) : Prop :=
  OkK c.ty c.l ∧ c.g ≠ gc ∧ U ≤ c.g ∧ c.g < m ∧ (0 < c.l.length → Far c.s gc ∧ ∀ d ∈ cs, Far c.s d.g) ∧ ∀ j, va.ownBlock = some j → c.g ≠ j ∧ (0 < c.l.length → Far c.s j)

/-- What holds while a chunk's list of parameters grows: the list's cells are the call's own, from block U on. -/
structure KB (U gc : Nat) (t : TypeId) (hd tl : List Value) (cs : List Kp) (w wr : World) (va : Value) : Prop where
  row : Row wr gc t (hd ++ va :: tl)
  own : wr.ownsRow U 63 1 va cs.length (cs.map Kp.v)
  all : KAll cs wr
  lies : ∀ c ∈ cs, KLies cs c gc U va wr.heap.size
  bel : w.grownBy wr (some gc)
  size : U ≤ wr.heap.size
  gU : gc < U

theorem KB.drew {U gc : Nat} {t : TypeId} {hd tl : List Value} {cs : List Kp} {w wr : World} {va : Value} (h : KB U gc t hd tl cs w wr va) : KB U gc t hd tl cs w wr.drew va :=
  ⟨h.row.drew, h.own.drew, h.all, h.lies, only_drew h.bel, h.size, h.gU⟩

theorem KB.below {U gc : Nat} {t : TypeId} {hd tl : List Value} {cs : List Kp} {w wr w2 : World} {va : Value} (h : KB U gc t hd tl cs w wr va) (hb : Below wr.heap.size wr w2) : KB U gc t hd tl cs w w2 va :=
  ⟨h.row.below hb h.row.lt, own_below h.own hb, h.all.below hb, fun c hc => by obtain ⟨a1, a2, a3, a4, a5, a6⟩ := h.lies c hc; exact ⟨a1, a2, a3, Nat.lt_of_lt_of_le a4 hb.size, a5, a6⟩, only_trans h.bel (grown_of_below hb _), Nat.le_trans h.size hb.size, h.gU⟩

theorem KB.step {U gc : Nat} {t : TypeId} {hd tl : List Value} {cs : List Kp} {w wr w3 w5 : World} {va v5 : Value} {c : Kp} {o : Obj} {i : Nat} (h : KB U gc t hd tl cs w wr va) (hi : i = hd.length)
    (hb : Below wr.heap.size wr w3) (hc : c.at w3) (hg : wr.heap.size ≤ c.g) (hok : OkK c.ty c.l) (hf : 0 < c.l.length → Far c.s gc ∧ (∀ j, va.ownBlock = some j → Far c.s j) ∧ (∀ d ∈ cs, Far c.s d.g) ∧ Far c.s c.g) (hw : w.heap.size ≤ U)
    (hown : w5.ownsRow U 63 1 v5 (cs.length + 1) (cs.map Kp.v ++ [c.v])) (hg5 : (w3.alloc o).grownBy w5 va.ownBlock) (hv : v5.ownBlock = va.ownBlock ∨ v5.ownBlock = some (w3.alloc o).heap.size) :
    KB U gc t hd tl (cs ++ [c]) w (w5.setCell ⟨gc, i, none⟩ v5) v5 := by
  have hgU := h.gU
  have hUz := h.size
  have hb4 : Below wr.heap.size wr (w3.alloc o) := hb.alloc hb.size o
  have hz4 := hb4.size
  have hz5 := hg5.size
  have hva : ∀ j, va.ownBlock = some j → U ≤ j ∧ j < wr.heap.size := fun j hj => h.own.lt j hj
  have hc4 : c.at (w3.alloc o) := hc.below ((Below.refl _ _).alloc (Nat.le_refl _) o)
  -- where all lie, of the elder list
  have hL4 : ∀ d ∈ cs ++ [c], KLies (cs ++ [c]) d gc U va (w3.alloc o).heap.size := by
    intro d hd0
    rcases List.mem_append.1 hd0 with hd1 | hd1
    · obtain ⟨a1, a2, a3, a4, a5, a6⟩ := h.lies d hd1
      refine ⟨a1, a2, a3, by omega, fun hp => ⟨(a5 hp).1, fun e he0 => ?_⟩, a6⟩
      rcases List.mem_append.1 he0 with he | he
      · exact (a5 hp).2 e he
      · rw [List.mem_singleton.1 he]
        exact (h.all d hd1).farN hg hp
    · obtain rfl := List.mem_singleton.1 hd1
      have := hc4.lt
      refine ⟨hok, by omega, by omega, by omega, fun hp => ⟨(hf hp).1, fun e he0 => ?_⟩, fun j hj => ⟨by have := hva j hj; omega, fun hp => (hf hp).2.1 j hj⟩⟩
      rcases List.mem_append.1 he0 with he | he
      · exact (hf hp).2.2.1 e he
      · rw [List.mem_singleton.1 he]
        exact (hf hp).2.2.2
  have hA4 : KAll (cs ++ [c]) (w3.alloc o) := by
    intro d hd'
    rcases List.mem_append.1 hd' with hd' | hd'
    · exact (h.all d hd').below hb4
    · obtain rfl := List.mem_singleton.1 hd'
      exact hc4
  have hA5 : KAll (cs ++ [c]) w5 := fun d hd' => (hA4 d hd').only0 hg5 (hL4 d hd').2.2.2.2.2
  have hr5 : Row w5 gc t (hd ++ va :: tl) := (h.row.below hb4 (by omega)).grown hg5 (by intro e; have := hva gc e.symm; omega)
  have hL5 : ∀ d ∈ cs ++ [c], KLies (cs ++ [c]) d gc U v5 w5.heap.size := by
    intro d hd'
    obtain ⟨a1, a2, a3, a4, a5, a6⟩ := hL4 d hd'
    refine ⟨a1, a2, a3, by omega, a5, fun j hj => ?_⟩
    rcases hv with e | e
    · exact a6 j (by rw [← e]; exact hj)
    · rw [e] at hj
      injection hj with hj
      exact ⟨by omega, fun hp => (hA4 d hd').farN (by omega) hp⟩
  have hg6 : w5.grownBy (w5.setCell ⟨gc, i, none⟩ v5) (some gc) := only_set (only_refl _ _) i _
  have hz6 : (w5.setCell ⟨gc, i, none⟩ v5).heap.size = w5.heap.size := by simp [World.setCell]
  have hv5 : v5.ownBlock ≠ some gc := own_apart hown hgU
  refine ⟨?_, ?_, fun d hd' => (hA5 d hd').only0 hg6 (fun j hj => ?_), fun d hd' => ?_, ?_, by omega, hgU⟩
  · have h6 := hr5.set i v5
    have e : (hd ++ va :: tl).set i v5 = hd ++ v5 :: tl := by
      subst hi
      simp
    rw [e] at h6
    exact h6
  · have h6 := hown.kept hg6 (.inr hv5)
    simpa using h6
  · injection hj with hj
    subst hj
    obtain ⟨a1, a2, a3, a4, a5, a6⟩ := hL5 d hd'
    exact ⟨a2, fun hp => (a5 hp).1⟩
  · rw [hz6]
    exact hL5 d hd'
  · refine only_trans (only_own (only_trans h.bel (grown_of_below hb4 _)) hg5 (fun j hj => ?_)) hg6
    have := hva j hj
    omega

/-- The list that has grown, as a marshal of another chunk wants it. -/
theorem KB.side {U gc : Nat} {t : TypeId} {hd tl : List Value} {cs : List Kp} {w wr : World} {va : Value} (h : KB U gc t hd tl cs w wr va) {g2 m : Nat} (hg : wr.heap.size ≤ g2) (hm : wr.heap.size ≤ m) : KSide cs g2 m := by
  intro c hc
  obtain ⟨a1, a2, a3, a4, a5, a6⟩ := h.lies c hc
  exact ⟨a1, by omega, by omega, fun hp => ⟨(h.all c hc).farN hg hp, fun g hg' => (h.all c hc).farN (by omega) hp, (a5 hp).2⟩⟩

/-- A slice is returned with no error, holding these bytes; nothing below B has changed. -/
def RetSlM (B : Nat) (w : World) (l : List UInt8) (e : Ending) (w' : World) : Prop := ∃ A n c, e = .returned (.tuple #[.slice A n c, .nilIface]) ∧ Sl w' (.slice A n c) l ∧ Below B w w'
end Go.Proofs.YtokkhfjlbnochaaDoor
