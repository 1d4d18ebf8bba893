/- Words that the walks of this seat share: results, slices, rows. No condition. -/
import Derived.Test.YtnlkmcbhhljajaaDoorOps
import Derived.Test.YtnlkmcbhhljajaaDoorProg
import Derived.Test.YtnlkmcbhhljajaaDoorRvP
import Derived.Lib.Hide
import Derived.Outline
import Derived.StillTailTactics
import Derived.RegionCalls
import Derived.Laws.Rows
import Derived.Laws.Tables
import Derived.Laws.ResultCell
import Derived.Laws.Bits64b
import Derived.Deep.RegionHeld3
import Derived.Deep.RegionLaw
import Derived.Deep.DeepCutAuto
import Derived.BigQuiet
namespace Go.Proofs.YtnlkmcbhhljajaaDoor
open Go.RowKit Go.Lib

theorem ret_bool {a b : Bool} (h : a = b) : Ending.returned (.bool a) = .returned (.bool b) := by rw [h]

theorem ret_int {k : IntKind} {a b : Int} (h : a = b) : Ending.returned (.int k a) = .returned (.int k b) := by rw [h]

/-- The slice does not lie in block g. -/
def Far (v : Value) (g : Nat) : Prop := ∀ A n c, v = .slice (some A) n c → A.block ≠ g

theorem Far.nil (g : Nat) : Far (.slice none 0 0) g := fun A n c h => by cases h

theorem ret_true {b : Bool} (h : b = true) : Ending.returned (.bool b) = .returned (.bool true) := by rw [h]

theorem only_set {a w : World} {g : Nat} (h : a.grownBy w (some g)) (i : Nat) (u : Value) : a.grownBy (w.setCell ⟨g, i, none⟩ u) (some g) := only_setCell (p := ⟨g, i, none⟩) h (.inl rfl) u

theorem Row.new' {g : Nat} (w : World) (t : TypeId) (cs : Array Value) (h : g = w.heap.size) : Row (w.alloc (.cells cs t)) g t cs.toList := by
  subst h
  exact Row.new w t cs

theorem results_cell_tmp_row {P : Program} {fn : Func} {p u : Tmp} {ty : TypeId} (h : fn.results = #[.cell p ty, .tmp u]) (tmps : Array Value) (w : World) (g : Nat) (t : TypeId) (cs : Array Value) (fr : Nat × Nat) (d : TypeDesc)
    (hp : tmps.getD p undef = .pointer (some ⟨g, 0, none⟩)) (hg : w.heap[g]? = some (.cells cs t fr))
    (hu : P.underlying ty = some d) (hd : (match d with | .struct _ | .array _ _ => true | _ => false) = true) (hi : (P.info? ty).map (·.size) = some cs.size) :
    (results fn tmps).run P w = .ok (.tuple #[.agg cs, tmps.getD u undef]) w := by
  rw [results_cell_tmp h, hp]
  simp [asAddr, run_loadVar_row w g t ty cs fr d hg hu hd hi]

/-- A call that returns a slice of elements of 'size' cells. -/
def RetRd (w : World) (size n : Nat) (xs : List Value) (e : Ending) (w' : World) : Prop := ∃ A c, e = .returned (.slice A n c) ∧ Rd w' size n (.slice A n c) xs ∧ Below w.heap.size w w'

theorem RetRd.mk {w w' : World} {size n : Nat} {xs : List Value} {v : Value} (h : Rd w' size n v xs) (hb : Below w.heap.size w w') : RetRd w size n xs (.returned v) w' := by
  have h' := h
  obtain ⟨A, c, rfl, _⟩ := h
  exact ⟨A, c, rfl, h', hb⟩

theorem Rd.lit2 {g : Nat} (w : World) (e : TypeId) (a b : Value) (h : g = w.heap.size) : Rd (w.alloc (.cells #[a, b] e)) 2 1 (.slice (some ⟨g, 0, none⟩) 1 1) [a, b] := by
  subst h
  exact (Row.new w e #[a, b]).rd (by simp) (Nat.le_refl _) (by unfold maxLen; omega)

/-- A slice of the call's own lies in no elder block. -/
theorem own_far {w : World} {B : Nat} {e : TypeId} {size n : Nat} {v : Value} {xs : List Value} (h : w.ownsRow B e size v n xs) {g : Nat} (hg : g < B) : Far v g := by
  intro A m c hv
  rcases h.2 with ⟨rfl, _⟩ | ⟨g', cap, cur, rfl, hb, _⟩
  · cases hv
  · injection hv with h1
    injection h1 with h1
    subst h1
    simp only [ne_eq]
    omega

theorem own_apart {w : World} {B : Nat} {e : TypeId} {size n : Nat} {v : Value} {xs : List Value} (h : w.ownsRow B e size v n xs) {g : Nat} (hg : g < B) : v.ownBlock ≠ some g := fun e => by have := (h.lt g e).1; omega

theorem own_slice {w : World} {B : Nat} {e : TypeId} {size n : Nat} {v : Value} {xs : List Value} (h : w.ownsRow B e size v n xs) : ∃ A c, v = .slice A n c := by
  rcases h.2 with ⟨rfl, rfl⟩ | ⟨g', cap, cur, rfl, _⟩
  · exact ⟨none, 0, rfl⟩
  · exact ⟨_, _, rfl⟩

/-- An append of the call's own changed a block that is new. -/
theorem only_own {a b c : World} {r s : Option Nat} (h : a.grownBy b r) (k : b.grownBy c s) (hg : ∀ j, s = some j → a.heap.size ≤ j) : a.grownBy c r :=
  ⟨k.os.trans h.os, k.tape.trans h.tape, k.output.trans h.output, Nat.le_trans h.size k.size, fun i hi hne => (k.block i (Nat.lt_of_lt_of_le hi h.size) (by intro e; have := hg i e.symm; omega)).trans (h.block i hi hne)⟩

/-- A callee changed one block, and that is a new one. -/
theorem only_new {a b c : World} {r : Option Nat} {g : Nat} (h : a.grownBy b r) (k : b.grownBy c (some g)) (hg : a.heap.size ≤ g) : a.grownBy c r :=
  ⟨k.os.trans h.os, k.tape.trans h.tape, k.output.trans h.output, Nat.le_trans h.size k.size, fun i hi hne => (k.block i (Nat.lt_of_lt_of_le hi h.size) (by intro e; injection e with e; omega)).trans (h.block i hi hne)⟩

theorem Rd.apart {w : World} {size n : Nat} {v : Value} {xs : List Value} {g : Nat} {t : TypeId} {ys : List Value} (h : Rd w size n v xs) (hr : Row w g t ys) (hx : ∀ x ∈ xs, x ∉ ys) : 0 < n * size → Far v g := by
  intro hp A m c hv
  obtain ⟨A', c', hv', hnc, hcm, hl0, h0, hc⟩ := h
  rw [hv] at hv'
  injection hv' with e1 e2 e3
  subst e1
  obtain ⟨g', o, hA, hg⟩ := hc hp
  injection hA with hA
  subst hA
  intro e
  simp only at e
  subst e
  have hx0 : xs[0]? = some (xs[0]'(by omega)) := List.getElem?_eq_getElem (by omega)
  have h1 := hg 0 _ hx0
  rw [Nat.add_zero, hr.cell] at h1
  exact hx _ (List.mem_of_getElem? hx0) (List.mem_of_getElem? h1)

theorem Rd.only' {w w' : World} {size n : Nat} {v : Value} {xs : List Value} {g : Nat} (h : Rd w size n v xs) (hg : w.grownBy w' (some g)) (hf : 0 < n * size → Far v g) : Rd w' size n v xs := by
  rcases Nat.eq_zero_or_pos (n * size) with hz | hp
  · obtain ⟨A, c, hv, hnc, hcm, hl0, h0, _⟩ := h
    exact ⟨A, c, hv, hnc, hcm, hl0, h0, fun hp => absurd hp (by omega)⟩
  · exact h.only hg (fun A c hv => hf hp A _ c hv)

theorem Row.two {w : World} {g : Nat} {t : TypeId} {a b : Value} (h : Row w g t [a, b]) : w.cell? ⟨g, 0, none⟩ = some a ∧ w.cell? ⟨g, 1, none⟩ = some b := by
  simp only [h.cell]
  exact ⟨rfl, rfl⟩

theorem made_const (z : Array Value) (v : Value) (n : Nat) (hz : 0 < z.size) (h : ∀ i, i < z.size → z[i]! = v) : (madeCells z n).toList = List.replicate n v := by
  apply List.ext_getElem
  · simp [madeCells]
  · intro i h1 h2
    simp only [madeCells, Array.getElem_toList, Array.getElem_map, Array.getElem_range, List.getElem_replicate]
    exact h _ (Nat.mod_lt _ hz)

theorem own_below {w w' : World} {B : Nat} {e : TypeId} {size n : Nat} {v : Value} {xs : List Value} (h : w.ownsRow B e size v n xs) (hb : Below w.heap.size w w') : w'.ownsRow B e size v n xs := h.kept (grown_of_below hb none) (by cases h : v.ownBlock <;> simp)

/-- A slice that stood before block g was made does not lie in it. -/
theorem Rd.farN {w : World} {size n : Nat} {v : Value} {xs : List Value} (h : Rd w size n v xs) {g : Nat} (hg : w.heap.size ≤ g) : 0 < n * size → Far v g := by
  intro hp A m c hv
  obtain ⟨A', c', hv', hnc, hcm, hl0, h0, hc⟩ := h
  rw [hv] at hv'
  injection hv' with e1 e2 e3
  subst e1
  obtain ⟨g', o, hA, hg'⟩ := hc hp
  injection hA with hA
  subst hA
  have hx0 : xs[0]? = some (xs[0]'(by omega)) := List.getElem?_eq_getElem (by omega)
  have := World.block_lt_of_cell? w ⟨g', o + 0, none⟩ (hg' 0 _ hx0)
  intro e
  simp only at e this
  omega

theorem wp_region_tail {P : Program} {id : Nat} {Q : Exit → Act → World → Prop} {a : Act} {w : World} {l : List Oper} (n : Nat) (hm : P.follows .mixedOrders = true) (hB : Region.lexTailB .any l.toArray n = true)
    (h : wpStill P l.toArray w.drew (fun a' => wpList P l.toArray Q (l.drop n) a' w.drew) (l.take n) a) : (Code.region id l.toArray true).wp P Q a w := wp_region_still_tail n hm hB h
end Go.Proofs.YtnlkmcbhhljajaaDoor

