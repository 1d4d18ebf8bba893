/- Contracts of the small functions that every law of this seat calls: copied, same, number, joined. No condition but bounds on lengths. -/
import Derived.Test.YtokkhfjlbnochaaDoorOps
import Derived.Test.YtokkhfjlbnochaaDoorProg
import Derived.Lib.Hide
import Derived.Outline
namespace Go.Proofs.YtokkhfjlbnochaaDoor
open Go.RowKit

theorem bT : ElT Tryd.prog 27 5 (.int .u8 0) 1 1 := ⟨Tryd.underlying27, by kernel_rfl, rfl, by decide⟩

/-- A call that returns bytes, in new memory or old, and changes nothing that was there. -/
def RetSl (w : World) (l : List UInt8) (e : Ending) (w' : World) : Prop := ∃ A n c, e = .returned (.slice A n c) ∧ Sl w' (.slice A n c) l ∧ Below w.heap.size w w'
theorem RetSl.mk {w w' : World} {l : List UInt8} {v : Value} (h : Sl w' v l) (hb : Below w.heap.size w w') : RetSl w l (.returned v) w' := by
  obtain ⟨A, c, rfl, h'⟩ := h
  exact ⟨A, _, c, rfl, ⟨A, c, rfl, h'⟩, hb⟩
theorem Sl.len {w : World} {A : Option Addr} {n c : Nat} {l : List UInt8} (h : Sl w (.slice A n c) l) : n = l.length := by
  obtain ⟨A', c', hv, _⟩ := h
  injection hv

theorem copied_any (v : Value) (l : List UInt8) (w : World) (h : Sl w v l) (hl : l.length ≤ 1000000000) :
    Calls Tryd.prog 13 #[v] w (RetSl w l) := by
  go_enter Tryd.func13, Tryd.ntmps13
  go_wp2_with (at_builtin; refine wpList_append_rd _ rfl _ _ rfl bT w.heap.size (.slice none 0 0) 0 [] rfl (World.ownsRow_nil _ _ _ _) v l.length (bvs l) rfl h (bvs_one l) (by unfold maxLen; omega) (by omega) (Nat.le_refl _) ?_)
  intro v1 w1 hown hg hat
  go_wp2
  go_ret
  exact RetSl.mk (Sl.of_own (by simpa using hown)) ((Below.refl _ _).grown hg (Nat.le_refl _) (by simp [Value.ownBlock]))

theorem ret_bool {a b : Bool} (h : a = b) : Ending.returned (.bool a) = .returned (.bool b) := by rw [h]
theorem same_any (v1 v2 : Value) (l1 l2 : List UInt8) (w : World) (h1 : Sl w v1 l1) (h2 : Sl w v2 l2) :
    Calls Tryd.prog 9 #[v1, v2] w fun e w' => e = .returned (.bool (decide (l1 = l2))) ∧ w = w' := by
  have c1 := run_conv_sl (P := Tryd.prog) w Tryd.underlying27 Tryd.underlying5 Tryd.underlying9 h1
  have c2 := run_conv_sl (P := Tryd.prog) w Tryd.underlying27 Tryd.underlying5 Tryd.underlying9 h2
  go_enter Tryd.func9, Tryd.ntmps9
  go_wp2
  go_ret
  exact ⟨ret_bool (by rw [Bool.eq_iff_iff]; simp), rfl⟩

theorem num_rel {n size : Int} {w wr w1 : World} {pre : List UInt8} {v v1 : Value} {o : Obj} {z : Int} (j : Nat) (hz : z = n / 256 ^ j % 256) (hn0 : 0 ≤ n)
    (Hp : Hid (pre ++ be (j + 1) n.toNat = be size.toNat n.toNat)) (hown : wr.ownsRow w.heap.size 5 1 v pre.length (bvs pre)) (hb : Below w.heap.size w wr)
    (hown1 : w1.ownsRow w.heap.size 5 1 v1 (pre.length + 1) (bvs pre ++ [Value.int IntKind.u8 z])) (hg1 : (wr.alloc o).grownBy w1 v.ownBlock) :
    ∃ pre' : List UInt8, Hid (pre' ++ be j n.toNat = be size.toNat n.toNat) ∧ w1.ownsRow w.heap.size 5 1 v1 pre'.length (bvs pre') ∧ Below w.heap.size w w1 := by
  refine ⟨pre ++ [UInt8.ofNat (n.toNat / 256 ^ j)], ?_, ?_, ?_⟩
  · have h := Hp.out
    show _ = _
    simp only [be] at h
    simpa using h
  · have hb : Value.int IntKind.u8 z = bv (UInt8.ofNat (n.toNat / 256 ^ j)) := by
      obtain ⟨m, rfl⟩ := Int.eq_ofNat_of_zero_le hn0
      unfold bv
      rw [hz, Int.toNat_natCast, UInt8.toNat_ofNat']
      simp
    rw [hb] at hown1
    simpa [bvs] using hown1
  · exact (hb.alloc hb.size o).grown hg1 (by have := hb.size; simp only [World.size_alloc]; omega) (fun k hk => (hown.lt k hk).1)

theorem number_any (n size : Int) (w : World) (hn0 : 0 ≤ n) (hn : n ≤ 4294967295) (hs0 : 0 ≤ size) (hs : size ≤ 4) :
    Calls Tryd.prog 19 #[.int .i64 n, .int .i64 size] w (RetSl w (be size.toNat n.toNat)) := by
  go_enter Tryd.func19, Tryd.ntmps19
  go_wp2
  go_loopw [5, 6] (fun v i wr => ∃ (x : Int) (pre : List UInt8), i = .int .i64 x ∧ -1 ≤ x ∧ x < size ∧ Hid (pre ++ be (x + 1).toNat n.toNat = be size.toNat n.toNat) ∧ wr.ownsRow w.heap.size 5 1 v pre.length (bvs pre) ∧ Hid (pre.length ≤ 4) ∧ Below w.heap.size w wr) (fun _ i _ => (intOf i + 1).toNat)
  case atStart => exact ⟨_, [], rfl, by omega, by omega, by simp [Hid], World.ownsRow_made w #[] 0 (Nat.le_refl _) (Nat.zero_le _) rfl, by simp [Hid], (Below.refl _ _).alloc (Nat.le_refl _) _⟩
  case round =>
    obtain ⟨x, pre, rfl, hx0, hx, Hp, hown, Hl, hb⟩ := hrel
    by_cases h0 : x < 0
    · go_wp2
      go_ret
      refine RetSl.mk ?_ hb
      have hpre := Hp.out
      rw [show (x + 1).toNat = 0 by omega] at hpre
      simp only [be, List.append_nil] at hpre
      subst hpre
      exact Sl.of_own hown
    · have hl : pre.length ≤ 4 := Hl.out
      have hbs := hb.size
      rcases (show x = 0 ∨ x = 1 ∨ x = 2 ∨ x = 3 by omega) with rfl | rfl | rfl | rfl
      · go_wp2_with (at_builtin; refine wpList_append_rd _ rfl _ _ rfl bT w.heap.size _ pre.length (bvs pre) rfl (hown.alloc _) _ 1 [_] rfl (Rd.lit wr 5 [_] 1 rfl (by omega)) ?c01 ?c02 ?c03 ?c04 ?_)
        case c01 => rfl
        case c02 => unfold maxLen; omega
        case c03 => omega
        case c04 => omega
        intro v1 w1 hown1 hg1 _
        obtain ⟨pre', Hp', hown', hb'⟩ := num_rel 0 (by simp) hn0 Hp hown hb hown1 hg1
        have Hl' : Hid (pre'.length ≤ 4) := by
          have h := congrArg List.length Hp'.out
          show _ ≤ 4
          simp only [List.length_append, be_length] at h
          omega
        clear hown1 hg1 Hp hown hb
        go_wp2
        go_roundw
        case rel => exact ⟨0 - 1, pre', by go_num, by omega, by omega, by rw [show ((0 : Int) - 1 + 1).toNat = 0 from rfl]; exact Hp', hown', Hl', hb'⟩
        case measure => simp [intOf]
      · go_wp2_with (at_builtin; refine wpList_append_rd _ rfl _ _ rfl bT w.heap.size _ pre.length (bvs pre) rfl (hown.alloc _) _ 1 [_] rfl (Rd.lit wr 5 [_] 1 rfl (by omega)) ?c11 ?c12 ?c13 ?c14 ?_)
        case c11 => rfl
        case c12 => unfold maxLen; omega
        case c13 => omega
        case c14 => omega
        intro v1 w1 hown1 hg1 _
        obtain ⟨pre', Hp', hown', hb'⟩ := num_rel 1 (by simp) hn0 Hp hown hb hown1 hg1
        have Hl' : Hid (pre'.length ≤ 4) := by
          have h := congrArg List.length Hp'.out
          show _ ≤ 4
          simp only [List.length_append, be_length] at h
          omega
        clear hown1 hg1 Hp hown hb
        go_wp2
        go_roundw
        case rel => exact ⟨1 - 1, pre', by go_num, by omega, by omega, by rw [show ((1 : Int) - 1 + 1).toNat = 1 from rfl]; exact Hp', hown', Hl', hb'⟩
        case measure => simp [intOf]
      · go_wp2_with (at_builtin; refine wpList_append_rd _ rfl _ _ rfl bT w.heap.size _ pre.length (bvs pre) rfl (hown.alloc _) _ 1 [_] rfl (Rd.lit wr 5 [_] 1 rfl (by omega)) ?c21 ?c22 ?c23 ?c24 ?_)
        case c21 => rfl
        case c22 => unfold maxLen; omega
        case c23 => omega
        case c24 => omega
        intro v1 w1 hown1 hg1 _
        obtain ⟨pre', Hp', hown', hb'⟩ := num_rel 2 (by simp) hn0 Hp hown hb hown1 hg1
        have Hl' : Hid (pre'.length ≤ 4) := by
          have h := congrArg List.length Hp'.out
          show _ ≤ 4
          simp only [List.length_append, be_length] at h
          omega
        clear hown1 hg1 Hp hown hb
        go_wp2
        go_roundw
        case rel => exact ⟨2 - 1, pre', by go_num, by omega, by omega, by rw [show ((2 : Int) - 1 + 1).toNat = 2 from rfl]; exact Hp', hown', Hl', hb'⟩
        case measure => simp [intOf]
      · go_wp2_with (at_builtin; refine wpList_append_rd _ rfl _ _ rfl bT w.heap.size _ pre.length (bvs pre) rfl (hown.alloc _) _ 1 [_] rfl (Rd.lit wr 5 [_] 1 rfl (by omega)) ?c31 ?c32 ?c33 ?c34 ?_)
        case c31 => rfl
        case c32 => unfold maxLen; omega
        case c33 => omega
        case c34 => omega
        intro v1 w1 hown1 hg1 _
        obtain ⟨pre', Hp', hown', hb'⟩ := num_rel 3 (by show _ = n / 16777216 % 256; omega) hn0 Hp hown hb hown1 hg1
        have Hl' : Hid (pre'.length ≤ 4) := by
          have h := congrArg List.length Hp'.out
          show _ ≤ 4
          simp only [List.length_append, be_length] at h
          omega
        clear hown1 hg1 Hp hown hb
        go_wp2
        go_roundw
        case rel => exact ⟨3 - 1, pre', by go_num, by omega, by omega, by rw [show ((3 : Int) - 1 + 1).toNat = 3 from rfl]; exact Hp', hown', Hl', hb'⟩
        case measure => simp [intOf]
end Go.Proofs.YtokkhfjlbnochaaDoor
