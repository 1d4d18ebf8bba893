/- Contracts on the road of FnChecksumIs: copied, joined; laws of a table of 2048 words. No condition but bounds on lengths. -/
import Derived.Test.YthgpmocbpofnhaaOps
import Derived.Test.YthgpmocbpofnhaaCrcP
import Derived.Test.YthgpmocbpofnhaaProg
import Derived.Lib.Hide
import Derived.Outline
import Derived.Lib.EndianBits
import Derived.Deep.QuietTactic
import Derived.BigQuiet
import Derived.Deep.DeepCutAuto
namespace Go.Proofs.Ythgpmocbpofnhaa
open Go.RowKit

theorem bT : ElT Try.prog 22 5 (.int .u8 0) 1 1 := ⟨Try.underlying22, by kernel_rfl, rfl, by decide⟩

/-- A call that returns bytes, in new memory or old, and changes nothing that was there. -/
def RetSl (w : World) (l : List UInt8) (e : Ending) (w' : World) : Prop := ∃ A n c, e = .returned (.slice A n c) ∧ Sl w' (.slice A n c) l ∧ Below w.heap.size w w'
theorem RetSl.mk {w w' : World} {l : List UInt8} {v : Value} (h : Sl w' v l) (hb : Below w.heap.size w w') : RetSl w l (.returned v) w' := by
  obtain ⟨A, c, rfl, h'⟩ := h
  exact ⟨A, _, c, rfl, ⟨A, c, rfl, h'⟩, hb⟩
theorem Sl.len {w : World} {A : Option Addr} {n c : Nat} {l : List UInt8} (h : Sl w (.slice A n c) l) : n = l.length := by
  obtain ⟨A', c', hv, _⟩ := h
  injection hv

theorem copied_any (v : Value) (l : List UInt8) (w : World) (h : Sl w v l) (hl : l.length ≤ 1000000000) :
    Calls Try.prog 7 #[v] w (RetSl w l) := by
  go_enter Try.func7, Try.ntmps7
  go_wp2_with (at_builtin; refine wpList_append_rd _ rfl _ _ rfl bT w.heap.size (.slice none 0 0) 0 [] rfl (World.ownsRow_nil _ _ _ _) v l.length (bvs l) rfl h (bvs_one l) (by unfold maxLen; omega) (by omega) (Nat.le_refl _) ?_)
  intro v1 w1 hown hg hat
  go_wp2
  go_ret
  exact RetSl.mk (Sl.of_own (by simpa using hown)) ((Below.refl _ _).grown hg (Nat.le_refl _) (by simp [Value.ownBlock]))

/-- Slices of bytes that read as lists of bytes, one by one. -/
def Sls (w : World) (vs : List Value) (ls : List (List UInt8)) : Prop := vs.length = ls.length ∧ ∀ (i : Nat) (v : Value) (l : List UInt8), vs[i]? = some v → ls[i]? = some l → Sl w v l
theorem Sls.below {w w' : World} {vs : List Value} {ls : List (List UInt8)} (h : Sls w vs ls) (hb : Below w.heap.size w w') : Sls w' vs ls := ⟨h.1, fun i v l hv hl => (h.2 i v l hv hl).below hb⟩

theorem Sls.nil (w : World) : Sls w [] [] := ⟨rfl, fun i v l hv => by simp at hv⟩
theorem Sls.cons {w : World} {v : Value} {l : List UInt8} {vs : List Value} {ls : List (List UInt8)} (h : Sl w v l) (hs : Sls w vs ls) : Sls w (v :: vs) (l :: ls) := by
  refine ⟨by simp [hs.1], fun i u m hu hm => ?_⟩
  cases i with
  | zero => simp at hu hm; subst hu hm; exact h
  | succ i => simp at hu hm; exact hs.2 i u m hu hm
theorem join_rel {w wr w1 : World} {v1 u : Value} {ls : List (List UInt8)} {k : Nat} {l : List UInt8} (hk : ls[k]? = some l) (hb : Below w.heap.size w wr)
    (hown : wr.ownsRow w.heap.size 5 1 u (ls.take k).flatten.length (bvs (ls.take k).flatten))
    (hown1 : w1.ownsRow w.heap.size 5 1 v1 ((ls.take k).flatten.length + l.length) (bvs (ls.take k).flatten ++ bvs l)) (hg1 : wr.grownBy w1 u.ownBlock) :
    w1.ownsRow w.heap.size 5 1 v1 (ls.take (k + 1)).flatten.length (bvs (ls.take (k + 1)).flatten) ∧ Below w.heap.size w w1 := by
  refine ⟨?_, hb.grown hg1 hb.size (fun j hj => (hown.lt j hj).1)⟩
  have e : (ls.take (k + 1)).flatten = (ls.take k).flatten ++ l := by
    rw [List.take_add_one, hk]; simp
  rw [e, bvs_append, List.length_append]
  exact hown1

theorem flat_le {ls : List (List UInt8)} {k : Nat} {l : List UInt8} (hk : ls[k]? = some l) : (ls.take k).flatten.length + l.length ≤ ls.flatten.length := by
  have e : (ls.take (k + 1)).flatten = (ls.take k).flatten ++ l := by
    rw [List.take_add_one, hk]; simp
  have h2 : ls.flatten.length = (ls.take (k + 1)).flatten.length + (ls.drop (k + 1)).flatten.length := by
    rw [← List.length_append, ← List.flatten_append, List.take_append_drop]
  rw [h2, e, List.length_append]
  omega

theorem joined_any (v : Value) (vs : List Value) (ls : List (List UInt8)) (w : World) (h : Rd w 1 vs.length v vs) (hs : Sls w vs ls) (hl : ls.flatten.length ≤ 1000000000) (hn : vs.length ≤ 1000000) :
    Calls Try.prog 9 #[v] w (RetSl w ls.flatten) := by
  have Hs := Lib.hid hs
  clear hs
  have Hl := Lib.hid hl
  clear hl
  obtain ⟨A, c, rfl, hnc, hcm, hl0, h0, hc⟩ := h
  have HC := Lib.hid hc
  clear hc h0 hl0
  unfold maxLen at hcm
  go_enter Try.func9, Try.ntmps9
  go_wp2
  go_loopw [3, 9] (fun v i wr => ∃ k : Nat, k ≤ vs.length ∧ i = .int .i64 k ∧ wr.ownsRow w.heap.size 5 1 v (ls.take k).flatten.length (bvs (ls.take k).flatten) ∧ Below w.heap.size w wr) (fun _ i _ => vs.length - (intOf i).toNat)
  case atStart => exact ⟨0, Nat.zero_le _, rfl, World.ownsRow_made w #[] 0 (Nat.le_refl _) (Nat.zero_le _) rfl, (Below.refl _ _).alloc (Nat.le_refl _) _⟩
  case round =>
    obtain ⟨k, hk, rfl, hown, hb⟩ := hrel
    by_cases hlt : k < vs.length
    · obtain ⟨g, o, rfl, hg⟩ := HC.out (by omega)
      have hx : vs[k]? = some vs[k] := List.getElem?_eq_getElem hlt
      generalize vs[k] = x at hx
      have hcell : wr.cell? ⟨g, o + k, none⟩ = some x := by
        have h1 := hg k x hx
        exact (hb.cell (World.block_lt_of_cell? w ⟨g, o + k, none⟩ h1)).trans h1
      have hlk : k < ls.length := by have := Hs.out.1; omega
      have hy : ls[k]? = some ls[k] := List.getElem?_eq_getElem hlk
      generalize ls[k] = l at hy
      have hsl : Sl wr x l := (Hs.out.2 k x l hx hy).below hb
      have hbd : (ls.take k).flatten.length + l.length ≤ 1000000000 := Nat.le_trans (flat_le hy) Hl.out
      have hbs := hb.size
      generalize hcur : (ls.take k).flatten = cur at hown hbd
      have Hcur := Lib.hid hcur
      clear hcur
      have Hx := Lib.hid hx
      have Hy := Lib.hid hy
      clear hx hy hg
      go_wp2_with (at_builtin; refine wpList_append_rd _ rfl _ _ rfl bT w.heap.size _ _ _ rfl hown x l.length (bvs l) rfl hsl (bvs_one l) ?c1 ?c2 hbs ?_)
      case c1 => unfold maxLen; omega
      case c2 => omega
      intro v1 w1 hown1 hg1 _
      have hcur := Hcur.out
      subst hcur
      obtain ⟨hown', hb'⟩ := join_rel Hy.out hb hown hown1 hg1
      clear hown1 hg1 hown hb hsl hcell Hcur
      go_wp2
      go_roundw
      case rel => exact ⟨k + 1, by omega, by go_num, hown', hb'⟩
      case measure => simp [intOf]; omega
    · obtain rfl : k = vs.length := by omega
      go_wp2
      go_ret
      refine RetSl.mk ?_ hb
      rw [Hs.out.1, List.take_length] at hown
      exact Sl.of_own hown


theorem only_set {a w : World} {g : Nat} (h : a.grownBy w (some g)) (i : Nat) (u : Value) : a.grownBy (w.setCell ⟨g, i, none⟩ u) (some g) := only_setCell (p := ⟨g, i, none⟩) h (.inl rfl) u
/-- A table's cells. -/
def cellsF (F : Nat → Nat) : List Value := (List.range 2048).map fun j => .int .u32 (F j : Int)
theorem cellsF_get (F : Nat → Nat) (j : Nat) (h : j < 2048) : (cellsF F)[j]? = some (.int .u32 (F j : Int)) := by
  simp [cellsF, h]
theorem cellsF_set (F : Nat → Nat) (i v : Nat) (h : i < 2048) : (cellsF F).set i (.int .u32 (v : Int)) = cellsF (fun j => if j = i then v else F j) := by
  apply List.ext_getElem?
  intro j
  rw [List.getElem?_set]
  by_cases hj : j < 2048
  · rw [cellsF_get _ j hj, cellsF_get _ j hj]
    by_cases e : i = j
    · subst e; simp [cellsF, h]
    · rw [if_neg e, if_neg (fun h => e h.symm)]
  · have e1 : (cellsF F)[j]? = none := by simp [cellsF]; omega
    have e2 : (cellsF fun j => if j = i then v else F j)[j]? = none := by simp [cellsF]; omega
    rw [e1, e2, if_neg (by omega)]
theorem Row.cellF {w : World} {g : Nat} {t : TypeId} {F : Nat → Nat} (h : Row w g t (cellsF F)) (j : Nat) (hj : j < 2048) : w.cell? ⟨g, j, none⟩ = some (.int .u32 (F j : Int)) := by
  rw [h.cell, cellsF_get F j hj]
theorem cellsF_zero : cellsF (fun _ => 0) = List.replicate 2048 (.int .u32 0) := by
  apply List.ext_getElem?
  intro j
  by_cases hj : j < 2048
  · rw [cellsF_get _ j hj, List.getElem?_replicate, if_pos hj]; rfl
  · rw [List.getElem?_eq_none (by simp [cellsF]; omega), List.getElem?_eq_none (by simp only [List.length_replicate]; omega)]

/-- A variable of an array type, new: a block of its own, known whole. -/
theorem wpList_alloc_row {P : Program} {w : World} {ops : Array Oper} {rest : List Oper} {o : Oper} {a : Act} {Q : Exit → Act → World → Prop} (hg : o.guard = none) (t : TypeId) (hop : o.op = .alloc t)
    (cs : List Value) (hi : (P.info? t).map (fun i => i.zero.map (fun z => z.cells.toList)) = some (some cs))
    (hK : ∀ w', Row w' w.heap.size t cs → Below w.heap.size w w' → wpList P ops Q rest (a.put o.dst (.pointer (some ⟨w.heap.size, 0, none⟩))) w') : wpList P ops Q (o :: rest) a w := by
  refine wpList_plain hg fun K hK' => ?_
  cases hie : P.info? t with
  | none => simp [hie] at hi
  | some i =>
    rw [hie] at hi
    cases hz : i.zero with
    | none => simp [hz] at hi
    | some z =>
      simp only [Option.map_some, hz, Option.some.injEq] at hi
      unfold Oper.wp
      simp [execOp, hop, Instr.alloc, zeroValue, typeInfo, hie, hz, newVar, newRow, Result.andThen]
      refine hK' _ _ (hK _ ?_ ((Below.refl _ _).alloc (Nat.le_refl _) _))
      have h1 := Row.new w t z.cells
      rw [hi] at h1
      exact h1
end Go.Proofs.Ythgpmocbpofnhaa
