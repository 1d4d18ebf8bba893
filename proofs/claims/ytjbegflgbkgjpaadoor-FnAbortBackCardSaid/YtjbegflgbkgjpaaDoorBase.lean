/- Contracts of the small functions that every law of this seat calls: copied, same, number, joined. No condition but bounds on lengths. -/
import Derived.Test.YtjbegflgbkgjpaaDoorOps
import Derived.Test.YtjbegflgbkgjpaaDoorProg
import Derived.Lib.Hide
import Derived.Outline
namespace Go.Proofs.YtjbegflgbkgjpaaDoor
open Go.RowKit

theorem bT : ElT Tryd.prog 24 5 (.int .u8 0) 1 1 := ⟨Tryd.underlying24, by kernel_rfl, rfl, by decide⟩

/-- A call that returns bytes, in new memory or old, and changes nothing that was there. -/
def RetSl (w : World) (l : List UInt8) (e : Ending) (w' : World) : Prop := ∃ A n c, e = .returned (.slice A n c) ∧ Sl w' (.slice A n c) l ∧ Below w.heap.size w w'
theorem RetSl.mk {w w' : World} {l : List UInt8} {v : Value} (h : Sl w' v l) (hb : Below w.heap.size w w') : RetSl w l (.returned v) w' := by
  obtain ⟨A, c, rfl, h'⟩ := h
  exact ⟨A, _, c, rfl, ⟨A, c, rfl, h'⟩, hb⟩
theorem Sl.len {w : World} {A : Option Addr} {n c : Nat} {l : List UInt8} (h : Sl w (.slice A n c) l) : n = l.length := by
  obtain ⟨A', c', hv, _⟩ := h
  injection hv

theorem copied_any (v : Value) (l : List UInt8) (w : World) (h : Sl w v l) (hl : l.length ≤ 1000000000) :
    Calls Tryd.prog 11 #[v] w (RetSl w l) := by
  go_enter Tryd.func11, Tryd.ntmps11
  go_wp2_with (at_builtin; refine wpList_append_rd _ rfl _ _ rfl bT w.heap.size (.slice none 0 0) 0 [] rfl (World.ownsRow_nil _ _ _ _) v l.length (bvs l) rfl h (bvs_one l) (by unfold maxLen; omega) (by omega) (Nat.le_refl _) ?_)
  intro v1 w1 hown hg hat
  go_wp2
  go_ret
  exact RetSl.mk (Sl.of_own (by simpa using hown)) ((Below.refl _ _).grown hg (Nat.le_refl _) (by simp [Value.ownBlock]))

theorem ret_bool {a b : Bool} (h : a = b) : Ending.returned (.bool a) = .returned (.bool b) := by rw [h]
theorem same_any (v1 v2 : Value) (l1 l2 : List UInt8) (w : World) (h1 : Sl w v1 l1) (h2 : Sl w v2 l2) :
    Calls Tryd.prog 7 #[v1, v2] w fun e w' => e = .returned (.bool (decide (l1 = l2))) ∧ w = w' := by
  have c1 := run_conv_sl (P := Tryd.prog) w Tryd.underlying24 Tryd.underlying5 Tryd.underlying9 h1
  have c2 := run_conv_sl (P := Tryd.prog) w Tryd.underlying24 Tryd.underlying5 Tryd.underlying9 h2
  go_enter Tryd.func7, Tryd.ntmps7
  go_wp2
  go_ret
  exact ⟨ret_bool (by rw [Bool.eq_iff_iff]; simp), rfl⟩

theorem num_rel {n size : Int} {w wr w1 : World} {pre : List UInt8} {v v1 : Value} {o : Obj} {z : Int} (j : Nat) (hz : z = n / 256 ^ j % 256) (hn0 : 0 ≤ n)
    (Hp : Hid (pre ++ be (j + 1) n.toNat = be size.toNat n.toNat)) (hown : wr.ownsRow w.heap.size 5 1 v pre.length (bvs pre)) (hb : Below w.heap.size w wr)
    (hown1 : w1.ownsRow w.heap.size 5 1 v1 (pre.length + 1) (bvs pre ++ [Value.int IntKind.u8 z])) (hg1 : (wr.alloc o).grownBy w1 v.ownBlock) :
    ∃ pre' : List UInt8, Hid (pre' ++ be j n.toNat = be size.toNat n.toNat) ∧ w1.ownsRow w.heap.size 5 1 v1 pre'.length (bvs pre') ∧ Below w.heap.size w w1 := by
  refine ⟨pre ++ [UInt8.ofNat (n.toNat / 256 ^ j)], ?_, ?_, ?_⟩
  · have h := Hp.out
    show _ = _
    simp only [be] at h
    simpa using h
  · have hb : Value.int IntKind.u8 z = bv (UInt8.ofNat (n.toNat / 256 ^ j)) := by
      obtain ⟨m, rfl⟩ := Int.eq_ofNat_of_zero_le hn0
      unfold bv
      rw [hz, Int.toNat_natCast, UInt8.toNat_ofNat']
      simp
    rw [hb] at hown1
    simpa [bvs] using hown1
  · exact (hb.alloc hb.size o).grown hg1 (by have := hb.size; simp only [World.size_alloc]; omega) (fun k hk => (hown.lt k hk).1)

end Go.Proofs.YtjbegflgbkgjpaaDoor
