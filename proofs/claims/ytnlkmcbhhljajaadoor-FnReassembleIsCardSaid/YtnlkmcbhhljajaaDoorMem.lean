/- Words for memory that all walks of this seat share: a slice value that reads as a list of cells; a block known whole; what is kept by later worlds. No condition. -/
import Derived.WalkKit
import Derived.Laws.OwnMore
import Derived.Deep.AppendLies
import Derived.Deep.Draws
import Derived.Maps.AppendAt
namespace Go.Proofs.YtnlkmcbhhljajaaDoor
open Go.RowKit

/-- One byte as a cell. -/
def bv (b : UInt8) : Value := .int .u8 (b.toNat : Int)
/-- A list of bytes as cells. -/
def bvs (l : List UInt8) : List Value := l.map bv
theorem bvs_length (l : List UInt8) : (bvs l).length = l.length := by simp [bvs]
theorem bvs_append (l m : List UInt8) : bvs (l ++ m) = bvs l ++ bvs m := by simp [bvs]
theorem bvs_one (l : List UInt8) : ∀ u ∈ bvs l, u.oneCell' = true := by
  intro u hu
  obtain ⟨b, _, rfl⟩ := List.mem_map.1 hu
  rfl
theorem bvs_get (l : List UInt8) (j : Nat) (h : j < l.length) : (bvs l)[j]? = some (bv l[j]) := by simp [bvs, h]

/-- The slice value v has n elements of 'size' cells each, and reads as the cells xs. -/
def Rd (w : World) (size n : Nat) (v : Value) (xs : List Value) : Prop :=
  ∃ A c, v = .slice A n c ∧ n ≤ c ∧ c ≤ maxLen ∧ xs.length = n * size ∧
    (A = none → c = 0) ∧ (0 < n * size → ∃ g o, A = some ⟨g, o, none⟩ ∧ ∀ j u, xs[j]? = some u → w.cell? ⟨g, o + j, none⟩ = some u)

/-- A slice of bytes. -/
def Sl (w : World) (v : Value) (l : List UInt8) : Prop := Rd w 1 l.length v (bvs l)

section
variable {w w' : World} {size n : Nat} {v : Value} {xs : List Value} {l : List UInt8}

theorem Rd.nil (w : World) (size : Nat) : Rd w size 0 (.slice none 0 0) [] := ⟨none, 0, rfl, Nat.le_refl _, Nat.zero_le _, by simp, fun _ => rfl, fun h => absurd h (by simp)⟩
theorem Sl.nil (w : World) : Sl w (.slice none 0 0) [] := Rd.nil w 1

theorem Rd.keep (h : Rd w size n v xs) (hk : ∀ p : Addr, p.block < w.heap.size → w'.cell? p = w.cell? p) : Rd w' size n v xs := by
  obtain ⟨A, c, hv, hn, hm, hl, h0, hc⟩ := h
  refine ⟨A, c, hv, hn, hm, hl, h0, fun hp => ?_⟩
  obtain ⟨g, o, hA, hg⟩ := hc hp
  exact ⟨g, o, hA, fun j u hu => (hk _ (World.block_lt_of_cell? w ⟨g, o + j, none⟩ (hg j u hu))).trans (hg j u hu)⟩
theorem Rd.below (h : Rd w size n v xs) (hb : Below w.heap.size w w') : Rd w' size n v xs := h.keep fun _ hp => hb.cell hp
theorem Rd.alloc (h : Rd w size n v xs) (o : Obj) : Rd (w.alloc o) size n v xs := h.keep fun p hp => World.cell?_alloc_lt w o p hp
theorem Rd.drew (h : Rd w size n v xs) : Rd w.drew size n v xs := h
theorem Rd.drewN (h : Rd w size n v xs) (k : Nat) : Rd (w.drewN k) size n v xs := h
theorem Sl.below (h : Sl w v l) (hb : Below w.heap.size w w') : Sl w' v l := Rd.below h hb
theorem Sl.alloc (h : Sl w v l) (o : Obj) : Sl (w.alloc o) v l := Rd.alloc h o
theorem Sl.drew (h : Sl w v l) : Sl w.drew v l := h
theorem Sl.drewN (h : Sl w v l) (k : Nat) : Sl (w.drewN k) v l := h

/-- What stood at an older world reads the same in whatever is the same below it. -/
theorem Rd.below_of {w0 : World} (h : Rd w0 size n v xs) (hb : Below w0.heap.size w0 w) : Rd w size n v xs := h.below hb

/-- A row of the call's own reads as its cells. -/
theorem Rd.of_own {base : Nat} {e : TypeId} (h : w.ownsRow base e size v n xs) : Rd w size n v xs := by
  obtain ⟨hl, h | ⟨g, cap, cur, hv, hb, hg, hn, hm, hs, ht⟩⟩ := h
  · obtain ⟨rfl, rfl⟩ := h
    have : xs = [] := List.eq_nil_of_length_eq_zero (by simpa using hl)
    subst this
    exact Rd.nil w size
  · refine ⟨some ⟨g, 0, none⟩, cap, hv, hn, hm, hl, (fun h => by cases h), fun _ => ⟨g, 0, rfl, fun j u hu => ?_⟩⟩
    rw [Nat.zero_add, cell_of_row w g j cur e (0, 0) hg]
    rw [← ht, List.getElem?_take] at hu
    split at hu
    · rw [← hu]; simp
    · cases hu
theorem Sl.of_own {base : Nat} {e : TypeId} (h : w.ownsRow base e 1 v l.length (bvs l)) : Sl w v l := Rd.of_own h
end

/-- A block known whole, none of its cells frozen. -/
def Row (w : World) (g : Nat) (t : TypeId) (xs : List Value) : Prop := w.heap[g]? = some (.cells xs.toArray t (0, 0))

section
variable {w w' : World} {g : Nat} {t : TypeId} {xs : List Value}
theorem Row.lt (h : Row w g t xs) : g < w.heap.size := by
  rcases Nat.lt_or_ge g w.heap.size with hlt | hge
  · exact hlt
  · unfold Row at h; rw [Array.getElem?_eq_none hge] at h; cases h
theorem Row.cell (h : Row w g t xs) (i : Nat) : w.cell? ⟨g, i, none⟩ = xs[i]? := by
  rw [cell_of_row w g i xs.toArray t (0, 0) h]; simp
theorem Row.frozen (h : Row w g t xs) (i : Nat) : w.frozen? ⟨g, i, none⟩ = false := by
  unfold Row at h
  simp [World.frozen?, h]
theorem Row.new (w : World) (t : TypeId) (cs : Array Value) : Row (w.alloc (.cells cs t)) w.heap.size t cs.toList := by
  have := heap_alloc_new w (.cells cs t)
  simpa [Row] using this
theorem Row.drew (h : Row w g t xs) : Row w.drew g t xs := h
theorem Row.drewN (h : Row w g t xs) (n : Nat) : Row (w.drewN n) g t xs := h
theorem Row.alloc (h : Row w g t xs) (o : Obj) : Row (w.alloc o) g t xs := (Below.heap_alloc w o g h.lt).trans h
theorem Row.set (h : Row w g t xs) (i : Nat) (u : Value) : Row (w.setCell ⟨g, i, none⟩ u) g t (xs.set i u) := by
  unfold Row at h ⊢
  simp [World.setCell, Array.getElem?_modify, h]
theorem Row.far (h : Row w g t xs) {p : Addr} (hp : g ≠ p.block) (u : Value) : Row (w.setCell p u) g t xs := (Below.heap_setCell w p u g hp).trans h
theorem Row.below {B : Nat} (h : Row w g t xs) (hb : Below B w w') (hg : g < B) : Row w' g t xs := (hb.block g hg).trans h
theorem Row.grown {row : Option Nat} (h : Row w g t xs) (hb : w.grownBy w' row) (hg : some g ≠ row) : Row w' g t xs := (hb.block g h.lt hg).trans h
theorem Row.ne {g' : Nat} {t' : TypeId} {xs' : List Value} (h : Row w g t xs) (h' : Row w g' t' xs') (hne : t ≠ t') : g ≠ g' := by
  rintro rfl
  unfold Row at h h'
  rw [h] at h'
  injection h' with h'
  injection h' with _ ht
  exact hne ht
/-- A whole slice over a block. -/
theorem Row.rd (h : Row w g t xs) {size n c : Nat} (hl : xs.length = n * size) (hn : n ≤ c) (hc : c ≤ maxLen) : Rd w size n (.slice (some ⟨g, 0, none⟩) n c) xs :=
  ⟨_, c, rfl, hn, hc, hl, (fun h => by cases h), fun _ => ⟨g, 0, rfl, fun j u hu => by rw [Nat.zero_add, h.cell]; exact hu⟩⟩
theorem Rd.lit (w : World) (e : TypeId) (us : List Value) (n : Nat) (hl : us.length = n) (hm : n ≤ 1000) : Rd (w.alloc (.cells us.toArray e)) 1 n (.slice (some ⟨w.heap.size, 0, none⟩) n n) us := by
  have h := Row.new w e us.toArray
  exact h.rd (by simp [hl]) (Nat.le_refl _) (by unfold maxLen; omega)
/-- A block known whole is owned. -/
theorem Row.own (h : Row w g t xs) {base size n : Nat} (hb : base ≤ g) (hl : xs.length = n * size) (hn : n ≤ maxLen) : w.ownsRow base t size (.slice (some ⟨g, 0, none⟩) n n) n xs :=
  ⟨hl, .inr ⟨g, n, xs.toArray, rfl, hb, h, Nat.le_refl _, hn, by simp [hl], by simp [← hl]⟩⟩
end

/-! ### Worlds that differ in one block and in new ones -/
theorem grown_of_below {w w' : World} (h : Below w.heap.size w w') (row : Option Nat) : w.grownBy w' row := ⟨h.os, h.tape, h.output, h.size, fun k hk _ => h.block k hk⟩
theorem below_drewN {B : Nat} {a w : World} (h : Below B a w) (n : Nat) : Below B a (w.drewN n) := ⟨h.os, h.tape, h.output, h.size, h.block⟩
theorem only_drewN {a w : World} {row : Option Nat} (h : a.grownBy w row) (n : Nat) : a.grownBy (w.drewN n) row := ⟨h.os, h.tape, h.output, h.size, h.block⟩
theorem only_drew {a w : World} {row : Option Nat} (h : a.grownBy w row) : a.grownBy w.drew row := ⟨h.os, h.tape, h.output, h.size, h.block⟩
theorem only_alloc {a w : World} {row : Option Nat} (h : a.grownBy w row) (o : Obj) : a.grownBy (w.alloc o) row :=
  ⟨h.os, h.tape, h.output, Nat.le_trans h.size (by simp), fun i hi hne => (Below.heap_alloc w o i (Nat.lt_of_lt_of_le hi h.size)).trans (h.block i hi hne)⟩
theorem only_setCell {a w : World} {g : Nat} (h : a.grownBy w (some g)) {p : Addr} (hp : p.block = g ∨ a.heap.size ≤ p.block) (u : Value) : a.grownBy (w.setCell p u) (some g) :=
  ⟨h.os, h.tape, h.output, by simpa [World.setCell] using h.size, fun i hi hne => (Below.heap_setCell w p u i (by
    rintro rfl
    rcases hp with hp | hp
    · exact hne (by rw [hp])
    · omega)).trans (h.block i hi hne)⟩
theorem only_trans {a b c : World} {row : Option Nat} (h : a.grownBy b row) (k : b.grownBy c row) : a.grownBy c row :=
  ⟨k.os.trans h.os, k.tape.trans h.tape, k.output.trans h.output, Nat.le_trans h.size k.size, fun i hi hne => (k.block i (Nat.lt_of_lt_of_le hi h.size) hne).trans (h.block i hi hne)⟩
theorem only_below {a b c : World} {row : Option Nat} (h : a.grownBy b row) (k : Below b.heap.size b c) : a.grownBy c row := only_trans h (grown_of_below k row)
theorem only_refl (w : World) (row : Option Nat) : w.grownBy w row := ⟨rfl, rfl, rfl, Nat.le_refl _, fun _ _ _ => rfl⟩
/-- A callee that changed one block, which is one of the call's own. -/
theorem below_only {B : Nat} {a b c : World} {g : Nat} (h : Below B a b) (hB : B ≤ b.heap.size) (k : b.grownBy c (some g)) (hg : B ≤ g) : Below B a c :=
  h.trans ⟨k.os, k.tape, k.output, k.size, fun i hi => k.block i (by omega) (by intro e; injection e with e; omega)⟩
theorem below_step {B : Nat} {a b c : World} (h : Below B a b) (hB : B ≤ b.heap.size) (k : Below b.heap.size b c) : Below B a c := h.trans (k.mono hB)

theorem Rd.only {w w' : World} {size n : Nat} {v : Value} {xs : List Value} {g : Nat} (h : Rd w size n v xs) (hg : w.grownBy w' (some g)) (hne : ∀ A c, v = .slice (some A) n c → A.block ≠ g) : Rd w' size n v xs := by
  obtain ⟨A, c, hv, hn, hm, hl, h0, hc⟩ := h
  refine ⟨A, c, hv, hn, hm, hl, h0, fun hp => ?_⟩
  obtain ⟨g', o, rfl, hg'⟩ := hc hp
  refine ⟨g', o, rfl, fun j u hu => ?_⟩
  have hlt := World.block_lt_of_cell? w ⟨g', o + j, none⟩ (hg' j u hu)
  have := hne _ _ hv
  exact (World.cell?_of_block (a := ⟨g', o + j, none⟩) (hg.block g' hlt (by intro e; injection e with e; exact this e))).trans (hg' j u hu)
end Go.Proofs.YtnlkmcbhhljajaaDoor
