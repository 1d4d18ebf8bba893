/- Contracts of joined, Chunk, Padding, Padded (the reference's). Conditions: bounds on lengths alone. -/
import Derived.Test.YtjbegflgbkgjpaaDoorBase
namespace Go.Proofs.YtjbegflgbkgjpaaDoor
open Go.RowKit

/-- Slices of bytes that read as lists of bytes, one by one. -/
def Sls (w : World) (vs : List Value) (ls : List (List UInt8)) : Prop := vs.length = ls.length ∧ ∀ (i : Nat) (v : Value) (l : List UInt8), vs[i]? = some v → ls[i]? = some l → Sl w v l
theorem Sls.below {w w' : World} {vs : List Value} {ls : List (List UInt8)} (h : Sls w vs ls) (hb : Below w.heap.size w w') : Sls w' vs ls := ⟨h.1, fun i v l hv hl => (h.2 i v l hv hl).below hb⟩

theorem Sls.nil (w : World) : Sls w [] [] := ⟨rfl, fun i v l hv => by simp at hv⟩
theorem Sls.cons {w : World} {v : Value} {l : List UInt8} {vs : List Value} {ls : List (List UInt8)} (h : Sl w v l) (hs : Sls w vs ls) : Sls w (v :: vs) (l :: ls) := by
  refine ⟨by simp [hs.1], fun i u m hu hm => ?_⟩
  cases i with
  | zero => simp at hu hm; subst hu hm; exact h
  | succ i => simp at hu hm; exact hs.2 i u m hu hm
theorem join_rel {w wr w1 : World} {v1 u : Value} {ls : List (List UInt8)} {k : Nat} {l : List UInt8} (hk : ls[k]? = some l) (hb : Below w.heap.size w wr)
    (hown : wr.ownsRow w.heap.size 5 1 u (ls.take k).flatten.length (bvs (ls.take k).flatten))
    (hown1 : w1.ownsRow w.heap.size 5 1 v1 ((ls.take k).flatten.length + l.length) (bvs (ls.take k).flatten ++ bvs l)) (hg1 : wr.grownBy w1 u.ownBlock) :
    w1.ownsRow w.heap.size 5 1 v1 (ls.take (k + 1)).flatten.length (bvs (ls.take (k + 1)).flatten) ∧ Below w.heap.size w w1 := by
  refine ⟨?_, hb.grown hg1 hb.size (fun j hj => (hown.lt j hj).1)⟩
  have e : (ls.take (k + 1)).flatten = (ls.take k).flatten ++ l := by
    rw [List.take_add_one, hk]; simp
  rw [e, bvs_append, List.length_append]
  exact hown1

theorem flat_le {ls : List (List UInt8)} {k : Nat} {l : List UInt8} (hk : ls[k]? = some l) : (ls.take k).flatten.length + l.length ≤ ls.flatten.length := by
  have e : (ls.take (k + 1)).flatten = (ls.take k).flatten ++ l := by
    rw [List.take_add_one, hk]; simp
  have h2 : ls.flatten.length = (ls.take (k + 1)).flatten.length + (ls.drop (k + 1)).flatten.length := by
    rw [← List.length_append, ← List.flatten_append, List.take_append_drop]
  rw [h2, e, List.length_append]
  omega


theorem bv_of (n : Int) (h0 : 0 ≤ n) (h1 : n ≤ 255) : Value.int .u8 n = bv (UInt8.ofNat n.toNat) := by
  unfold bv
  obtain ⟨m, rfl⟩ := Int.eq_ofNat_of_zero_le h0
  rw [Int.toNat_natCast, UInt8.toNat_ofNat']
  congr 1
  omega

end Go.Proofs.YtjbegflgbkgjpaaDoor
