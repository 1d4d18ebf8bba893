/- Contracts of joined, Chunk, Padding, Padded (the reference's). Conditions: bounds on lengths alone. -/
import Derived.Test.YtokkhfjlbnochaaDoorBase
namespace Go.Proofs.YtokkhfjlbnochaaDoor
open Go.RowKit

/-- Slices of bytes that read as lists of bytes, one by one. -/
def Sls (w : World) (vs : List Value) (ls : List (List UInt8)) : Prop := vs.length = ls.length ∧ ∀ (i : Nat) (v : Value) (l : List UInt8), vs[i]? = some v → ls[i]? = some l → Sl w v l
theorem Sls.below {w w' : World} {vs : List Value} {ls : List (List UInt8)} (h : Sls w vs ls) (hb : Below w.heap.size w w') : Sls w' vs ls := ⟨h.1, fun i v l hv hl => (h.2 i v l hv hl).below hb⟩

theorem Sls.nil (w : World) : Sls w [] [] := ⟨rfl, fun i v l hv => by simp at hv⟩
theorem Sls.cons {w : World} {v : Value} {l : List UInt8} {vs : List Value} {ls : List (List UInt8)} (h : Sl w v l) (hs : Sls w vs ls) : Sls w (v :: vs) (l :: ls) := by
  refine ⟨by simp [hs.1], fun i u m hu hm => ?_⟩
  cases i with
  | zero => simp at hu hm; subst hu hm; exact h
  | succ i => simp at hu hm; exact hs.2 i u m hu hm
theorem join_rel {w wr w1 : World} {v1 u : Value} {ls : List (List UInt8)} {k : Nat} {l : List UInt8} (hk : ls[k]? = some l) (hb : Below w.heap.size w wr)
    (hown : wr.ownsRow w.heap.size 5 1 u (ls.take k).flatten.length (bvs (ls.take k).flatten))
    (hown1 : w1.ownsRow w.heap.size 5 1 v1 ((ls.take k).flatten.length + l.length) (bvs (ls.take k).flatten ++ bvs l)) (hg1 : wr.grownBy w1 u.ownBlock) :
    w1.ownsRow w.heap.size 5 1 v1 (ls.take (k + 1)).flatten.length (bvs (ls.take (k + 1)).flatten) ∧ Below w.heap.size w w1 := by
  refine ⟨?_, hb.grown hg1 hb.size (fun j hj => (hown.lt j hj).1)⟩
  have e : (ls.take (k + 1)).flatten = (ls.take k).flatten ++ l := by
    rw [List.take_add_one, hk]; simp
  rw [e, bvs_append, List.length_append]
  exact hown1

theorem flat_le {ls : List (List UInt8)} {k : Nat} {l : List UInt8} (hk : ls[k]? = some l) : (ls.take k).flatten.length + l.length ≤ ls.flatten.length := by
  have e : (ls.take (k + 1)).flatten = (ls.take k).flatten ++ l := by
    rw [List.take_add_one, hk]; simp
  have h2 : ls.flatten.length = (ls.take (k + 1)).flatten.length + (ls.drop (k + 1)).flatten.length := by
    rw [← List.length_append, ← List.flatten_append, List.take_append_drop]
  rw [h2, e, List.length_append]
  omega

theorem joined_any (v : Value) (vs : List Value) (ls : List (List UInt8)) (w : World) (h : Rd w 1 vs.length v vs) (hs : Sls w vs ls) (hl : ls.flatten.length ≤ 1000000000) (hn : vs.length ≤ 1000000) :
    Calls Tryd.prog 18 #[v] w (RetSl w ls.flatten) := by
  have Hs := Lib.hid hs
  clear hs
  have Hl := Lib.hid hl
  clear hl
  obtain ⟨A, c, rfl, hnc, hcm, hl0, h0, hc⟩ := h
  have HC := Lib.hid hc
  clear hc h0 hl0
  unfold maxLen at hcm
  go_enter Tryd.func18, Tryd.ntmps18
  go_wp2
  go_loopw [3, 9] (fun v i wr => ∃ k : Nat, k ≤ vs.length ∧ i = .int .i64 k ∧ wr.ownsRow w.heap.size 5 1 v (ls.take k).flatten.length (bvs (ls.take k).flatten) ∧ Below w.heap.size w wr) (fun _ i _ => vs.length - (intOf i).toNat)
  case atStart => exact ⟨0, Nat.zero_le _, rfl, World.ownsRow_made w #[] 0 (Nat.le_refl _) (Nat.zero_le _) rfl, (Below.refl _ _).alloc (Nat.le_refl _) _⟩
  case round =>
    obtain ⟨k, hk, rfl, hown, hb⟩ := hrel
    by_cases hlt : k < vs.length
    · obtain ⟨g, o, rfl, hg⟩ := HC.out (by omega)
      have hx : vs[k]? = some vs[k] := List.getElem?_eq_getElem hlt
      generalize vs[k] = x at hx
      have hcell : wr.cell? ⟨g, o + k, none⟩ = some x := by
        have h1 := hg k x hx
        exact (hb.cell (World.block_lt_of_cell? w ⟨g, o + k, none⟩ h1)).trans h1
      have hlk : k < ls.length := by have := Hs.out.1; omega
      have hy : ls[k]? = some ls[k] := List.getElem?_eq_getElem hlk
      generalize ls[k] = l at hy
      have hsl : Sl wr x l := (Hs.out.2 k x l hx hy).below hb
      have hbd : (ls.take k).flatten.length + l.length ≤ 1000000000 := Nat.le_trans (flat_le hy) Hl.out
      have hbs := hb.size
      generalize hcur : (ls.take k).flatten = cur at hown hbd
      have Hcur := Lib.hid hcur
      clear hcur
      have Hx := Lib.hid hx
      have Hy := Lib.hid hy
      clear hx hy hg
      go_wp2_with (at_builtin; refine wpList_append_rd _ rfl _ _ rfl bT w.heap.size _ _ _ rfl hown x l.length (bvs l) rfl hsl (bvs_one l) ?c1 ?c2 hbs ?_)
      case c1 => unfold maxLen; omega
      case c2 => omega
      intro v1 w1 hown1 hg1 _
      have hcur := Hcur.out
      subst hcur
      obtain ⟨hown', hb'⟩ := join_rel Hy.out hb hown hown1 hg1
      clear hown1 hg1 hown hb hsl hcell Hcur
      go_wp2
      go_roundw
      case rel => exact ⟨k + 1, by omega, by go_num, hown', hb'⟩
      case measure => simp [intOf]; omega
    · obtain rfl : k = vs.length := by omega
      go_wp2
      go_ret
      refine RetSl.mk ?_ hb
      rw [Hs.out.1, List.take_length] at hown
      exact Sl.of_own hown

theorem bv_of (n : Int) (h0 : 0 ≤ n) (h1 : n ≤ 255) : Value.int .u8 n = bv (UInt8.ofNat n.toNat) := by
  unfold bv
  obtain ⟨m, rfl⟩ := Int.eq_ofNat_of_zero_le h0
  rw [Int.toNat_natCast, UInt8.toNat_ofNat']
  congr 1
  omega

theorem chunk_any (typ flags : Int) (v : Value) (l : List UInt8) (w : World) (ht0 : 0 ≤ typ) (ht : typ ≤ 255) (hf0 : 0 ≤ flags) (hf : flags ≤ 255) (h : Sl w v l) (hl : l.length ≤ 1000000) :
    Calls Tryd.prog 17 #[.int .i64 typ, .int .i64 flags, v] w (RetSl w (chunk typ.toNat flags.toNat l)) := by
  have H := Lib.hid h
  obtain ⟨A, c, rfl, hnc, hcm, hl0, h0, hc⟩ := h
  clear hc h0 hl0 hcm hnc
  go_enter Tryd.func17, Tryd.ntmps17
  go_wp2_with fail
  refine (number_any _ _ _ (by omega) (by omega) (by omega) (by omega)).mono ?_
  rintro e w1 ⟨A1, n1, c1, rfl, hs1, hb1⟩
  have Hb := Lib.hid hb1
  have hbs : w.heap.size < w1.heap.size := by have := hb1.size; simp at this; omega
  have Hs1 := Lib.hid hs1
  clear hb1 hs1
  go_wp2_with fail
  have hlit : Sl (w.alloc (.cells #[.int .u8 typ, .int .u8 flags] 5)) (.slice (some ⟨w.heap.size, 0, none⟩) 2 2) [UInt8.ofNat typ.toNat, UInt8.ofNat flags.toNat] := by
    have := Rd.lit w 5 [.int .u8 typ, .int .u8 flags] 2 rfl (by omega)
    rw [bv_of typ ht0 ht, bv_of flags hf0 hf] at this ⊢
    exact this
  have hb1 := Hb.out
  refine (joined_any _ [_, _, _] [_, _, _] _ (Rd.lit w1 27 [_, _, _] 3 rfl (by omega)) (.cons ((hlit.below hb1).alloc _) (.cons (Hs1.out.alloc _) (.cons (((H.out.alloc _).below hb1).alloc _) (Sls.nil _)))) ?_ (by simp)).mono ?_
  · simp [be_length]; omega
  rintro e w3 ⟨A3, n3, c3, rfl, hs3, hb3⟩
  have Hs3 := Lib.hid hs3
  have Hb3 := Lib.hid hb3
  clear hs3 hb3 hlit hb1
  go_wp2
  go_ret
  have e0 : chunk typ.toNat flags.toNat l = [[UInt8.ofNat typ.toNat, UInt8.ofNat flags.toNat], be (Int.toNat 2) (4 + (l.length : Int)).toNat, l].flatten := by
    rw [show (4 + (l.length : Int)).toNat = 4 + l.length by omega]
    simp [chunk]
  refine ⟨A3, n3, c3, rfl, by rw [e0]; exact Hs3.out, ?_⟩
  have b1 : Below w.heap.size w w1 := ((Below.refl _ _).alloc (Nat.le_refl _) _).trans (Hb.out.mono (by simp))
  exact (b1.alloc (by omega) _).trans (Hb3.out.mono (by simp; omega))
end Go.Proofs.YtokkhfjlbnochaaDoor
