/- What holds while INIT's parameters are written; contracts of padByte, getPadding and chunkInitCommon.marshal. Conditions: the length fits 16 bits. -/
import Derived.Test.YtokkhfjlbnochaaDoorInk
namespace Go.Proofs.YtokkhfjlbnochaaDoor
open Go.RowKit Go.Lib

/-- What holds in the loop that writes the parameters. -/
structure KMem (B gc : Nat) (t : TypeId) (cells : List Value) (L : Value) (n : Nat) (cs : List Kp) (w wr : World) (va : Value) (l : List UInt8) : Prop where
  row : Row wr gc t cells
  own : wr.ownsRow w.heap.size 5 1 va l.length (bvs l)
  all : KAll cs wr
  rd : Rd wr 1 n L (cs.map Kp.v)
  bel : Below B w wr
  size : w.heap.size ≤ wr.heap.size

/-- What lies still in that loop. -/
structure KFix (B gc n : Nat) (L : Value) (cs : List Kp) (w : World) : Prop where
  side : KSide cs gc w.heap.size
  low : ∀ c ∈ cs, B ≤ c.g
  hB : B ≤ w.heap.size
  hgc : gc < w.heap.size
  far : 0 < n * 1 → ∀ g, w.heap.size ≤ g → Far L g

theorem kpv_notin (cs : List Kp) (k1 k2 k3 : IntKind) (a b c : Int) (A : Option Addr) (n m : Nat) (ty : Nat) (s : Value) (hs : ∃ A n c, s = .slice A n c) : ∀ x ∈ cs.map Kp.v, x ∉ (.int k1 a :: .int k2 b :: .int k3 c :: .slice A n m :: kRest ty s) := by
  intro x hx hy
  obtain ⟨c, _, rfl⟩ := List.mem_map.1 hx
  obtain ⟨A1, n1, c1, rfl⟩ := hs
  unfold kRest at hy
  split at hy <;> simp [Kp.v] at hy

theorem Kp.at.slice {c : Kp} {w : World} (h : c.at w) : ∃ A n k, c.s = .slice A n k := by
  obtain ⟨x0, x1, x2, A, n, k, hr, hs⟩ := h
  obtain ⟨A, k, e, _⟩ := hs
  exact ⟨A, _, k, e⟩

theorem KMem.marshal {B gc : Nat} {t : TypeId} {cells : List Value} {L : Value} {n : Nat} {cs : List Kp} {w wr w2 : World} {va : Value} {l : List UInt8} {c : Kp} (h : KMem B gc t cells L n cs w wr va l) (f : KFix B gc n L cs w) (hc : c ∈ cs)
    (hg : wr.grownBy w2 (some c.g)) (hr : ∃ (y0 y1 y2 : Int) (A : Option Addr) (n k : Nat), Row w2 c.g (kt c.ty) (.int .u16 y0 :: .int .u8 y1 :: .int .i64 y2 :: .slice A n k :: kRest c.ty c.s)) : KMem B gc t cells L n cs w w2 va l := by
  obtain ⟨y0, y1, y2, A2, n2, k2, hr2⟩ := hr
  obtain ⟨hok, hne, hlt, hfar⟩ := f.side c hc
  have hat := h.all c hc
  have hsl := hat.slice
  refine ⟨h.row.grown hg (by intro e; injection e with e; exact hne e.symm), h.own.kept hg (.inr (fun e => by have := (h.own.lt _ e).1; omega)), h.all.marshal f.side hc hg hr2, ?_, ?_, Nat.le_trans h.size hg.size⟩
  · obtain ⟨x0, x1, x2, A, m, k, hr, hs⟩ := hat
    exact h.rd.only' hg (h.rd.apart hr (kpv_notin cs _ _ _ _ _ _ _ _ _ _ _ hsl))
  · exact h.bel.trans ⟨hg.os, hg.tape, hg.output, hg.size, fun i hi => hg.block i (by have := h.size; have := f.hB; omega) (by intro e; injection e with e; have := f.low c hc; omega)⟩

theorem KMem.append {B gc : Nat} {t : TypeId} {cells : List Value} {L : Value} {n : Nat} {cs : List Kp} {w wr w3 : World} {va v3 : Value} {l l' : List UInt8} (h : KMem B gc t cells L n cs w wr va l) (f : KFix B gc n L cs w)
    (hown : w3.ownsRow w.heap.size 5 1 v3 l'.length (bvs l')) (hg : wr.grownBy w3 va.ownBlock) : KMem B gc t cells L n cs w w3 v3 l' := by
  have hvb : ∀ j, va.ownBlock = some j → w.heap.size ≤ j := fun j hj => (h.own.lt j hj).1
  refine ⟨h.row.grown hg (own_apart h.own f.hgc).symm, hown, h.all.own f.side hg hvb, ?_, h.bel.grown hg (by have := h.size; have := f.hB; omega) (fun j hj => by have := hvb j hj; have := f.hB; omega), Nat.le_trans h.size hg.size⟩
  cases hv : va.ownBlock with
  | none => rw [hv] at hg; exact h.rd.below ⟨hg.os, hg.tape, hg.output, hg.size, fun i hi => hg.block i hi (by simp)⟩
  | some j => rw [hv] at hg; exact h.rd.only' hg (fun hp => f.far hp j (hvb j hv))

/-- The marshal of a parameter, by its type. -/
def kF (ty : Nat) : FuncId := if ty = 7 then 79 else 73
/-- What a parameter's marshal hands back. -/
def RetKz (w : World) (c : Kp) (e : Ending) (w' : World) : Prop :=
  ∃ A n k, e = .returned (.tuple #[.slice A n k, .nilIface]) ∧ Sl w' (.slice A n k) (tlv c.ty c.l) ∧ (∃ (y0 y1 y2 : Int) (A : Option Addr) (n k : Nat), Row w' c.g (kt c.ty) (.int .u16 y0 :: .int .u8 y1 :: .int .i64 y2 :: .slice A n k :: kRest c.ty c.s)) ∧ w.grownBy w' (some c.g) ∧ ∀ g, g < w.heap.size → Far (.slice A n k) g

theorem kmarshal (c : Kp) (w : World) (h : c.at w) (ho : OkK c.ty c.l) (hf : 0 < c.l.length → Far c.s c.g) :
    Calls Tryd.prog (kF c.ty) #[.pointer (some ⟨c.g, 0, none⟩)] w (RetKz w c) := by
  obtain ⟨g, ty, s, l⟩ := c
  obtain ⟨x0, x1, x2, A1, n1, c1, hr, hs⟩ := h
  simp only at hr hs ho hf ⊢
  have hs' := hs
  obtain ⟨As, ks, rfl, _⟩ := hs'
  obtain ⟨ht, hl⟩ := ho
  rcases ht with rfl | ⟨rfl, rfl⟩
  · refine (scmarshal g (kt 7) _ _ _ _ As l.length ks l w hr hs hf hl).mono ?_
    rintro e w' ⟨A, n, k, rfl, hS, ⟨A2, n2, c2, hR⟩, hG, hN⟩
    exact ⟨A, n, k, rfl, hS, ⟨_, _, _, _, _, _, hR⟩, hG, hN⟩
  · refine (ftmarshal g (kt 49152) _ _ _ _ w hr).mono ?_
    rintro e w' ⟨A, n, k, rfl, hS, ⟨A2, n2, c2, hR⟩, hG, hN⟩
    exact ⟨A, n, k, rfl, hS, ⟨_, _, _, _, _, _, hR⟩, hG, hN⟩
end Go.Proofs.YtokkhfjlbnochaaDoor
