/- Causes in memory: a ghost list of blocks, and what keeps it. No condition. -/
import Derived.Test.YtjbegflgbkgjpaaDoorEcb
namespace Go.Proofs.YtjbegflgbkgjpaaDoor
open Go.RowKit Go.Lib

/-- A cause: its block, type, information. -/
structure Cz where
  g : Nat
  ty : Nat
  s : Value
  l : List UInt8
def eT (ty : Nat) : TypeId := if ty = 12 then 77 else 74
def et (ty : Nat) : TypeId := if ty = 12 then 79 else 76
def Cz.v (c : Cz) : Value := .iface (eT c.ty) (.pointer (some ⟨c.g, 0, none⟩))
def Cz.at (c : Cz) (w : World) : Prop := ∃ (x : Int) (A1 : Option Addr) (n1 c1 : Nat), Row w c.g (et c.ty) [.int .u16 (c.ty : Int), .int .u16 x, .slice A1 n1 c1, c.s] ∧ Sl w c.s c.l
def All (cs : List Cz) (w : World) : Prop := ∀ c ∈ cs, c.at w

theorem Cz.at.below {c : Cz} {w w' : World} (h : c.at w) (hb : Below w.heap.size w w') : c.at w' := by
  obtain ⟨x, A1, n1, c1, hr, hs⟩ := h
  exact ⟨x, A1, n1, c1, hr.below hb hr.lt, hs.below hb⟩
theorem All.below {cs : List Cz} {w w' : World} (h : All cs w) (hb : Below w.heap.size w w') : All cs w' := fun c hc => (h c hc).below hb

/-- A block that is no cause's has changed, in which the information does not lie. -/
theorem Cz.at.only {c : Cz} {w w' : World} {g : Nat} (h : c.at w) (hg : w.grownBy w' (some g)) (hne : c.g ≠ g) (hf : 0 < c.l.length → Far c.s g) : c.at w' := by
  obtain ⟨x, A1, n1, c1, hr, hs⟩ := h
  exact ⟨x, A1, n1, c1, hr.grown hg (by intro e; injection e with e; exact hne e), hs.only' hg hf⟩

/-- A cause's own marshal has changed its block. -/
theorem Cz.at.marshal {c d : Cz} {w w' : World} {m : Int} {A : Option Addr} {n k : Nat} (h : c.at w) (hd : d.at w) (hg : w.grownBy w' (some d.g)) (hr' : Row w' d.g (et d.ty) [.int .u16 (d.ty : Int), .int .u16 m, .slice A n k, d.s]) : c.at w' := by
  obtain ⟨x, A1, n1, c1, hr, hs⟩ := h
  obtain ⟨y, B1, m1, d1, hr2, hs2⟩ := hd
  obtain ⟨Ad, kd, hds, _⟩ := hs2
  have hf := hs.apart hr2 (by
    intro x hx b e
    simp only [List.mem_cons, List.not_mem_nil, or_false] at hx
    rcases hx with rfl | rfl | rfl | rfl
    · simp [bv] at e
    · simp [bv] at e
    · simp [bv] at e
    · rw [hds] at e; simp [bv] at e)
  by_cases he : c.g = d.g
  · unfold Row at hr hr2
    rw [he] at hr
    rw [hr] at hr2
    injection hr2 with hr2
    injection hr2 with e1 e2
    have e3 := congrArg Array.toList e1
    simp only [List.toList_toArray, List.cons.injEq, Value.int.injEq, true_and, and_true] at e3
    obtain ⟨q1, _, _, q4⟩ := e3
    refine ⟨m, A, n, k, ?_, hs.only' hg hf⟩
    rw [he, e2, q1, q4]
    exact hr'
  · exact ⟨x, A1, n1, c1, hr.grown hg (by intro e; injection e with e; exact he e), hs.only' hg hf⟩
theorem All.marshal {cs : List Cz} {d : Cz} {w w' : World} {m : Int} {A : Option Addr} {n k : Nat} (h : All cs w) (hd : d.at w) (hg : w.grownBy w' (some d.g)) (hr' : Row w' d.g (et d.ty) [.int .u16 (d.ty : Int), .int .u16 m, .slice A n k, d.s]) : All cs w' := fun c hc => (h c hc).marshal hd hg hr'

/-- Where causes lie: in blocks of the call's, apart from the chunk's block gc and from all that is newer than U; so does what they say. -/
def Side (cs : List Cz) (gc U : Nat) : Prop := ∀ c ∈ cs, (c.ty = 12 ∨ c.ty = 13) ∧ c.g ≠ gc ∧ c.g < U ∧ c.l.length ≤ 65531 ∧ (0 < c.l.length → Far c.s gc ∧ ∀ g, U ≤ g → Far c.s g)

theorem All.chunk {cs : List Cz} {gc U : Nat} {w w' : World} (h : All cs w) (hs : Side cs gc U) (hg : w.grownBy w' (some gc)) : All cs w' := fun c hc =>
  (h c hc).only hg (hs c hc).2.1 (fun hp => ((hs c hc).2.2.2.2 hp).1)
theorem All.own {cs : List Cz} {gc U : Nat} {w w' : World} {r : Option Nat} (h : All cs w) (hs : Side cs gc U) (hg : w.grownBy w' r) (hr : ∀ j, r = some j → U ≤ j) : All cs w' := fun c hc => by
  cases r with
  | none => exact (h c hc).below ⟨hg.os, hg.tape, hg.output, hg.size, fun i hi => hg.block i hi (by simp)⟩
  | some j => exact (h c hc).only hg (by have := (hs c hc).2.2.1; have := hr j rfl; omega) (fun hp => ((hs c hc).2.2.2.2 hp).2 j (hr j rfl))

/-- A slice is returned with no error, holding these bytes; nothing below B has changed. -/
def RetSlM (B : Nat) (w : World) (l : List UInt8) (e : Ending) (w' : World) : Prop := ∃ A n c, e = .returned (.tuple #[.slice A n c, .nilIface]) ∧ Sl w' (.slice A n c) l ∧ Below B w w'

/-- The bytes of causes, one behind the other. -/
def cflat (cs : List Cz) : List UInt8 := (cs.map fun c => tlv c.ty c.l).flatten
theorem cflat_take {cs : List Cz} {k : Nat} {c : Cz} (h : cs[k]? = some c) : cflat (cs.take (k + 1)) = cflat (cs.take k) ++ tlv c.ty c.l := by
  unfold cflat
  rw [List.take_add_one, h]
  simp
theorem cflat_le {cs : List Cz} {k : Nat} {c : Cz} (h : cs[k]? = some c) : (cflat (cs.take k)).length + (4 + c.l.length) ≤ (cflat cs).length := by
  have e := congrArg List.length (cflat_take h)
  rw [List.length_append, tlv_length] at e
  have h2 : (cflat cs).length = (cflat (cs.take (k + 1))).length + (cflat (cs.drop (k + 1))).length := by
    unfold cflat
    rw [← List.length_append, ← List.flatten_append, ← List.map_append, List.take_append_drop]
  omega
end Go.Proofs.YtjbegflgbkgjpaaDoor
