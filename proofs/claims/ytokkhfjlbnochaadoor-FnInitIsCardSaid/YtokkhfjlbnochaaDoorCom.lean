/- Words that the walks of this seat share: results, slices, rows, big-endian readers. No condition but that numbers fit. -/
import Derived.Test.YtokkhfjlbnochaaDoorUnm
import Derived.RegionCalls
import Derived.Laws.Rows
import Derived.Laws.Tables
import Derived.Laws.ResultCell
import Derived.Deep.RegionHeld3
import Derived.Deep.RegionLaw
import Derived.Deep.DeepCutAuto
namespace Go.Proofs.YtokkhfjlbnochaaDoor
open Go.RowKit Go.Lib

/-- A call that returns bytes and no error, and changes at most block g of what was there. -/
def RetSlO (w : World) (g : Nat) (l : List UInt8) (e : Ending) (w' : World) : Prop := ∃ A n c, e = .returned (.tuple #[.slice A n c, .nilIface]) ∧ Sl w' (.slice A n c) l ∧ w.grownBy w' (some g)

/-- A call that returns bytes and true. -/
def RetSlB (w : World) (l : List UInt8) (e : Ending) (w' : World) : Prop := ∃ A n c, e = .returned (.tuple #[.slice A n c, .bool true]) ∧ Sl w' (.slice A n c) l ∧ Below w.heap.size w w'

theorem ret_true {b : Bool} (h : b = true) : Ending.returned (.bool b) = .returned (.bool true) := by rw [h]

theorem chunk_rev (typ : Nat) (l : List UInt8) : chunk typ 0 l = UInt8.ofNat typ :: 0 :: (be 2 (l.length + 4) ++ l) := by simp [chunk, Nat.add_comm]

theorem Sl.only' {w w' : World} {v : Value} {l : List UInt8} {g : Nat} (h : Sl w v l) (hg : w.grownBy w' (some g)) (hf : 0 < l.length → Far v g) : Sl w' v l := by
  rcases Nat.eq_zero_or_pos l.length with hz | hp
  · obtain rfl := List.eq_nil_of_length_eq_zero hz
    obtain ⟨A, c, hv, hnc, hcm, hl0, h0, _⟩ := h
    exact ⟨A, c, hv, hnc, hcm, hl0, h0, fun hp => absurd hp (by simp)⟩
  · exact h.only hg (hf hp)

theorem chunk_hd0 (typ : Nat) (l : List UInt8) : chunk typ 0 l = UInt8.ofNat typ :: 0 :: (be 2 (4 + l.length) ++ (l ++ List.replicate 0 0)) := by simp [chunk]

theorem put_whole (l m : List UInt8) (h : m.length = l.length) : put l 0 m = m := by
  simp only [put, List.take_zero, List.nil_append, Nat.zero_add]
  rw [List.drop_of_length_le (by omega)]
  simp

theorem Sl.apart {w : World} {v : Value} {l : List UInt8} {g : Nat} {t : TypeId} {xs : List Value} (h : Sl w v l) (hr : Row w g t xs) (hx : ∀ x ∈ xs, ∀ b, x ≠ bv b) : 0 < l.length → Far v g := by
  intro hp A n c hv
  obtain ⟨A', c', hv', hnc, hcm, hl0, h0, hc⟩ := h
  rw [hv] at hv'
  injection hv' with e1 e2 e3
  subst e1
  obtain ⟨g', o, hA, hg⟩ := hc (by omega)
  injection hA with hA
  subst hA
  intro e
  simp only at e
  subst e
  have h1 := hg 0 _ (bvs_get l 0 hp)
  rw [Nat.add_zero, hr.cell] at h1
  exact hx _ (List.mem_of_getElem? h1) _ rfl

theorem only_set {a w : World} {g : Nat} (h : a.grownBy w (some g)) (i : Nat) (u : Value) : a.grownBy (w.setCell ⟨g, i, none⟩ u) (some g) := only_setCell (p := ⟨g, i, none⟩) h (.inl rfl) u

theorem Row.new' {g : Nat} (w : World) (t : TypeId) (cs : Array Value) (h : g = w.heap.size) : Row (w.alloc (.cells cs t)) g t cs.toList := by
  subst h
  exact Row.new w t cs

theorem chunk_gen (typ f : Nat) (l : List UInt8) : chunk typ f l = UInt8.ofNat typ :: UInt8.ofNat f :: (be 2 (l.length + 4) ++ l) := by simp [chunk, Nat.add_comm]

theorem get32_be (A : Option Addr) (n c : Nat) (v : Nat) (r : List UInt8) (w : World) (h : Sl w (.slice A n c) (be 4 v ++ r)) (hv : v < 4294967296) :
    Calls Tryd.prog 51 #[.agg #[], .slice A n c] w fun z w' => z = .returned (.int .u32 v) ∧ Below w.heap.size w w' := by
  rw [be_four] at h
  have hx := ne_be_four v hv
  rw [be_four] at hx
  refine (get32_any A n c _ _ _ _ r w h).mono ?_
  rintro z w' ⟨rfl, hb⟩
  rw [hx]
  exact ⟨rfl, hb⟩

theorem get16_be (A : Option Addr) (n c : Nat) (v : Nat) (r : List UInt8) (w : World) (h : Sl w (.slice A n c) (be 2 v ++ r)) (hv : v < 65536) :
    Calls Tryd.prog 27 #[.agg #[], .slice A n c] w fun z w' => z = .returned (.int .u16 v) ∧ Below w.heap.size w w' := by
  rw [be_two] at h
  have hx := ne_be_two v hv
  rw [be_two] at hx
  refine (get16_any A n c _ _ r w h).mono ?_
  rintro z w' ⟨rfl, hb⟩
  rw [hx]
  exact ⟨rfl, hb⟩

/-- The rest of a slice from place lo on, its address as the walk reckons it where something is left. -/
theorem Sl.rest {w : World} {g o n c : Nat} {l : List UInt8} (h : Sl w (.slice (some ⟨g, o, none⟩) n c) l) (lo : Nat) (hlo : lo ≤ n) (hc : ¬ c = lo) : Sl w (.slice (some ⟨g, o + lo, none⟩) (n - lo) (c - lo)) (l.drop lo) := by
  have h2 := h.sub lo (n - lo) (by omega)
  rw [if_neg hc, List.take_of_length_le (by have := h.len; simp; omega)] at h2
  exact h2

theorem results_cell_tmp_row {P : Program} {fn : Func} {p u : Tmp} {ty : TypeId} (h : fn.results = #[.cell p ty, .tmp u]) (tmps : Array Value) (w : World) (g : Nat) (t : TypeId) (cs : Array Value) (fr : Nat × Nat) (d : TypeDesc)
    (hp : tmps.getD p undef = .pointer (some ⟨g, 0, none⟩)) (hg : w.heap[g]? = some (.cells cs t fr))
    (hu : P.underlying ty = some d) (hd : (match d with | .struct _ | .array _ _ => true | _ => false) = true) (hi : (P.info? ty).map (·.size) = some cs.size) :
    (results fn tmps).run P w = .ok (.tuple #[.agg cs, tmps.getD u undef]) w := by
  rw [results_cell_tmp h, hp]
  simp [asAddr, run_loadVar_row w g t ty cs fr d hg hu hd hi]

/-- A call that returns a slice of elements of 'size' cells. -/
def RetRd (w : World) (size n : Nat) (xs : List Value) (e : Ending) (w' : World) : Prop := ∃ A c, e = .returned (.slice A n c) ∧ Rd w' size n (.slice A n c) xs ∧ Below w.heap.size w w'

theorem RetRd.mk {w w' : World} {size n : Nat} {xs : List Value} {v : Value} (h : Rd w' size n v xs) (hb : Below w.heap.size w w') : RetRd w size n xs (.returned v) w' := by
  have h' := h
  obtain ⟨A, c, rfl, _⟩ := h
  exact ⟨A, c, rfl, h', hb⟩

theorem Rd.lit2 {g : Nat} (w : World) (e : TypeId) (a b : Value) (h : g = w.heap.size) : Rd (w.alloc (.cells #[a, b] e)) 2 1 (.slice (some ⟨g, 0, none⟩) 1 1) [a, b] := by
  subst h
  exact (Row.new w e #[a, b]).rd (by simp) (Nat.le_refl _) (by unfold maxLen; omega)

/-- A slice of the call's own lies in no elder block. -/
theorem own_far {w : World} {B : Nat} {e : TypeId} {size n : Nat} {v : Value} {xs : List Value} (h : w.ownsRow B e size v n xs) {g : Nat} (hg : g < B) : Far v g := by
  intro A m c hv
  rcases h.2 with ⟨rfl, _⟩ | ⟨g', cap, cur, rfl, hb, _⟩
  · cases hv
  · injection hv with h1
    injection h1 with h1
    subst h1
    simp only [ne_eq]
    omega

theorem own_apart {w : World} {B : Nat} {e : TypeId} {size n : Nat} {v : Value} {xs : List Value} (h : w.ownsRow B e size v n xs) {g : Nat} (hg : g < B) : v.ownBlock ≠ some g := fun e => by have := (h.lt g e).1; omega

theorem own_slice {w : World} {B : Nat} {e : TypeId} {size n : Nat} {v : Value} {xs : List Value} (h : w.ownsRow B e size v n xs) : ∃ A c, v = .slice A n c := by
  rcases h.2 with ⟨rfl, rfl⟩ | ⟨g', cap, cur, rfl, _⟩
  · exact ⟨none, 0, rfl⟩
  · exact ⟨_, _, rfl⟩

/-- An append of the call's own changed a block that is new. -/
theorem only_own {a b c : World} {r s : Option Nat} (h : a.grownBy b r) (k : b.grownBy c s) (hg : ∀ j, s = some j → a.heap.size ≤ j) : a.grownBy c r :=
  ⟨k.os.trans h.os, k.tape.trans h.tape, k.output.trans h.output, Nat.le_trans h.size k.size, fun i hi hne => (k.block i (Nat.lt_of_lt_of_le hi h.size) (by intro e; have := hg i e.symm; omega)).trans (h.block i hi hne)⟩

/-- A callee changed one block, and that is a new one. -/
theorem only_new {a b c : World} {r : Option Nat} {g : Nat} (h : a.grownBy b r) (k : b.grownBy c (some g)) (hg : a.heap.size ≤ g) : a.grownBy c r :=
  ⟨k.os.trans h.os, k.tape.trans h.tape, k.output.trans h.output, Nat.le_trans h.size k.size, fun i hi hne => (k.block i (Nat.lt_of_lt_of_le hi h.size) (by intro e; injection e with e; omega)).trans (h.block i hi hne)⟩

theorem Rd.apart {w : World} {size n : Nat} {v : Value} {xs : List Value} {g : Nat} {t : TypeId} {ys : List Value} (h : Rd w size n v xs) (hr : Row w g t ys) (hx : ∀ x ∈ xs, x ∉ ys) : 0 < n * size → Far v g := by
  intro hp A m c hv
  obtain ⟨A', c', hv', hnc, hcm, hl0, h0, hc⟩ := h
  rw [hv] at hv'
  injection hv' with e1 e2 e3
  subst e1
  obtain ⟨g', o, hA, hg⟩ := hc hp
  injection hA with hA
  subst hA
  intro e
  simp only at e
  subst e
  have hx0 : xs[0]? = some (xs[0]'(by omega)) := List.getElem?_eq_getElem (by omega)
  have h1 := hg 0 _ hx0
  rw [Nat.add_zero, hr.cell] at h1
  exact hx _ (List.mem_of_getElem? hx0) (List.mem_of_getElem? h1)

theorem Rd.only' {w w' : World} {size n : Nat} {v : Value} {xs : List Value} {g : Nat} (h : Rd w size n v xs) (hg : w.grownBy w' (some g)) (hf : 0 < n * size → Far v g) : Rd w' size n v xs := by
  rcases Nat.eq_zero_or_pos (n * size) with hz | hp
  · obtain ⟨A, c, hv, hnc, hcm, hl0, h0, _⟩ := h
    exact ⟨A, c, hv, hnc, hcm, hl0, h0, fun hp => absurd hp (by omega)⟩
  · exact h.only hg (fun A c hv => hf hp A _ c hv)

theorem Row.two {w : World} {g : Nat} {t : TypeId} {a b : Value} (h : Row w g t [a, b]) : w.cell? ⟨g, 0, none⟩ = some a ∧ w.cell? ⟨g, 1, none⟩ = some b := by
  simp only [h.cell]
  exact ⟨rfl, rfl⟩

theorem Sl.take {w : World} {A : Option Addr} {n c : Nat} {l : List UInt8} (h : Sl w (.slice A n c) l) (k : Nat) (hk : k ≤ n) : Sl w (.slice A k c) (l.take k) := by
  have hn := h.len
  obtain ⟨A', c', hv, hnc, hcm, hl0, h0, hc⟩ := h
  injection hv with e1 e2 e3
  subst e1 e3
  have hlen : (l.take k).length = k := by simp; omega
  refine ⟨_, _, by rw [hlen], by rw [hlen]; omega, by omega, by simp [bvs], h0, fun hp => ?_⟩
  rw [hlen] at hp
  obtain ⟨g, o, hA, hg⟩ := hc (by omega)
  refine ⟨g, o, hA, fun j u hu => hg j u ?_⟩
  rw [← hu]
  simp only [bvs, List.map_take, List.getElem?_take]
  rw [if_pos]
  have := (List.getElem?_eq_some_iff.1 hu).1
  rw [bvs_length, hlen] at this
  exact this

theorem ofNat_byte (n : Int) (h0 : 0 ≤ n) (h1 : n ≤ 255) : ((UInt8.ofNat n.toNat).toNat : Int) = n := by
  rw [UInt8.toNat_ofNat']; omega

theorem made_const (z : Array Value) (v : Value) (n : Nat) (hz : 0 < z.size) (h : ∀ i, i < z.size → z[i]! = v) : (madeCells z n).toList = List.replicate n v := by
  apply List.ext_getElem
  · simp [madeCells]
  · intro i h1 h2
    simp only [madeCells, Array.getElem_toList, Array.getElem_map, Array.getElem_range, List.getElem_replicate]
    exact h _ (Nat.mod_lt _ hz)

theorem Sl.farOf {w : World} {g0 o n c : Nat} {l : List UInt8} (h : Sl w (.slice (some ⟨g0, o, none⟩) n c) l) (hp : 0 < l.length) {g : Nat} (hg : w.heap.size ≤ g) {o' n' c' : Nat} : Far (.slice (some ⟨g0, o', none⟩) n' c') g := by
  intro A m d hv
  injection hv with e
  injection e with e
  subst e
  have hh := h.far hp hg ⟨g0, o, none⟩ n c rfl
  exact hh

end Go.Proofs.YtokkhfjlbnochaaDoor
