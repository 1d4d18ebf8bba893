/- The walks of FnDataUser and FnDataIs. No condition but that the numbers are of their kinds. -/
import Derived.Test.YtnaihmmfnffejaaDoorDatP
import Derived.Test.YtnaihmmfnffejaaDoorDatS
import Derived.Test.YtnaihmmfnffejaaDoorDatT
namespace Go.Proofs.YtnaihmmfnffejaaDoor
open Go.RowKit Go.Lib

section
variable (u b e i : Bool) (tsn st sq pr : Int) (A : Option Addr) (n c : Nat)

theorem fnDataUser_big (w : World) (h : 2147483647 < (n : Int)) :
    Calls Tryd.prog 11 #[.agg #[.bool u, .bool b, .bool e, .bool i, .int .u32 tsn, .int .i64 st, .int .i64 sq, .int .u32 pr, .slice A n c]] w fun z w' => z = .returned (.bool true) ∧ Below w.heap.size w w' := by
  go_enter Tryd.func11, Tryd.ntmps11
  go_wp2_with fail
  refine (fits2_any u b e i tsn st sq pr A n c _).mono ?_
  rintro z w1 ⟨rfl, hb1⟩
  rw [decide_eq_false (by omega)]
  have B1 := Lib.hid (((Below.refl w.heap.size w).alloc (Nat.le_refl _) (.cells #[.bool u, .bool b, .bool e, .bool i, .int .u32 tsn, .int .i64 st, .int .i64 sq, .int .u32 pr, .slice A n c] 59)).trans (hb1.mono (by simp)))
  clear hb1
  go_wp2
  go_ret
  exact ⟨rfl, B1.out⟩

theorem fnDataUser_not (w : World) (h0 : (n : Int) ≤ 2147483647) (h : st < 0 ∨ 65535 < st ∨ sq < 0 ∨ 65535 < sq ∨ (n : Int) ≤ 0 ∨ 4096 < (n : Int)) :
    Calls Tryd.prog 11 #[.agg #[.bool u, .bool b, .bool e, .bool i, .int .u32 tsn, .int .i64 st, .int .i64 sq, .int .u32 pr, .slice A n c]] w fun z w' => z = .returned (.bool true) ∧ Below w.heap.size w w' := by
  have Hh := Lib.hid h
  have hg := Row.new w 59 #[.bool u, .bool b, .bool e, .bool i, .int .u32 tsn, .int .i64 st, .int .i64 sq, .int .u32 pr, .slice A n c]
  clear h
  go_enter Tryd.func11, Tryd.ntmps11
  go_wp2_with fail
  refine (fits2_any u b e i tsn st sq pr A n c _).mono ?_
  rintro z w1 ⟨rfl, hb1⟩
  rw [decide_eq_true h0]
  have B1 := Lib.hid (((Below.refl w.heap.size w).alloc (Nat.le_refl _) (.cells #[.bool u, .bool b, .bool e, .bool i, .int .u32 tsn, .int .i64 st, .int .i64 sq, .int .u32 pr, .slice A n c] 59)).trans (hb1.mono (by simp)))
  have k1 := (hg.below hb1 hg.lt).nine
  clear hb1 hg
  go_wp2_with fail
  refine (isData_no u b e i tsn st sq pr A n c _ Hh.out).mono ?_
  rintro z w2 ⟨rfl, hb2⟩
  have B2 := Lib.hid (below_step B1.out B1.out.size hb2)
  clear hb2
  go_wp2
  go_ret
  exact ⟨rfl, B2.out⟩
end

theorem fnDataUser_in (u b e i : Bool) (tsn st sq pr : Int) (A : Option Addr) (n c : Nat) (l : List UInt8) (w : World) (hs : Sl w (.slice A n c) l)
    (h1 : 0 ≤ st) (h2 : st ≤ 65535) (h3 : 0 ≤ sq) (h4 : sq ≤ 65535) (h5 : 0 < (n : Int)) (h6 : (n : Int) ≤ 4096) (ht0 : 0 ≤ tsn) (ht : tsn ≤ 4294967295) (hp0 : 0 ≤ pr) (hp : pr ≤ 4294967295) :
    Calls Tryd.prog 11 #[.agg #[.bool u, .bool b, .bool e, .bool i, .int .u32 tsn, .int .i64 st, .int .i64 sq, .int .u32 pr, .slice A n c]] w fun z w' => z = .returned (.bool true) ∧ Below w.heap.size w w' := by
  have hn := hs.len
  have hl : l.length ≤ 4096 := by omega
  have hl0 : 0 < l.length := by omega
  have hg := Row.new w 59 #[.bool u, .bool b, .bool e, .bool i, .int .u32 tsn, .int .i64 st, .int .i64 sq, .int .u32 pr, .slice A n c]
  have Hs := Lib.hid hs
  have Hl := Lib.hid hl
  have Hl0 := Lib.hid hl0
  clear hs hn hl hl0
  go_enter Tryd.func11, Tryd.ntmps11
  go_wp2_with fail
  refine (fits2_any u b e i tsn st sq pr A n c _).mono ?_
  rintro z w1 ⟨rfl, hb1⟩
  rw [decide_eq_true (by omega)]
  have B1 := Lib.hid (((Below.refl w.heap.size w).alloc (Nat.le_refl _) (.cells #[.bool u, .bool b, .bool e, .bool i, .int .u32 tsn, .int .i64 st, .int .i64 sq, .int .u32 pr, .slice A n c] 59)).trans (hb1.mono (by simp)))
  have G1 := Lib.hid (hg.below hb1 hg.lt)
  have k1 := G1.out.nine
  clear hb1 hg
  go_wp2_with fail
  refine (isData_yes u b e i tsn st sq pr A n c _ h1 h2 h3 h4 h5 h6).mono ?_
  rintro z w2 ⟨rfl, hb2⟩
  have B2 := Lib.hid (below_step B1.out B1.out.size hb2)
  have G2 := Lib.hid (G1.out.below hb2 G1.out.lt)
  have k2 := G2.out.nine
  clear hb2 k1
  go_wp2_with fail
  refine (datatext_any u b e i tsn st sq pr A n c l _ (Hs.out.below B2.out) Hl.out Hl0.out ht0 ht h1 h2 h3 h4 hp0 hp).mono ?_
  rintro z w3 ⟨A3, n3, c3, rfl, hs3, hb3⟩
  have B3 := Lib.hid (below_step B2.out B2.out.size hb3)
  have G3 := Lib.hid (G2.out.below hb3 G2.out.lt)
  have S3 := Lib.hid hs3
  have k3 := G3.out.nine
  clear hb3 hs3 k2
  go_wp2_with fail
  refine (dataread_any _ u b e i tsn.toNat st.toNat sq.toNat pr.toNat l _ S3.out Hl.out Hl0.out (by omega) (by omega) (by omega) (by omega)).mono ?_
  rintro z w4 ⟨A4, n4, c4, rfl, hs4, hb4⟩
  rw [show ((tsn.toNat : Nat) : Int) = tsn by omega, show ((st.toNat : Nat) : Int) = st by omega, show ((sq.toNat : Nat) : Int) = sq by omega, show ((pr.toNat : Nat) : Int) = pr by omega]
  have B4 := Lib.hid (below_step B3.out B3.out.size hb4)
  have G4 := Lib.hid (G3.out.below hb4 G3.out.lt)
  have S4 := Lib.hid hs4
  have k4 := G4.out.nine
  have hlt : w.heap.size < w4.heap.size := G4.out.lt
  have hne : ¬ w.heap.size = w4.heap.size := by omega
  clear hb4 hs4 k3
  go_wp2_with fail
  refine (same_any _ _ _ _ _ (S4.out.alloc _) ((Hs.out.below B4.out).alloc _)).mono ?_
  rintro z w5 ⟨rfl, rfl⟩
  rw [decide_eq_true (rfl : l = l)]
  go_wp2_with fail
  refine (samedata_any u b e i tsn st sq pr A4 A n4 c4 n c _).mono ?_
  rintro z w6 ⟨rfl, hb6⟩
  have B5 := B4.out.alloc B4.out.size (.cells #[.bool u, .bool b, .bool e, .bool i, .int .u32 tsn, .int .i64 st, .int .i64 sq, .int .u32 pr, .slice A4 n4 c4] 59)
  have B6 := Lib.hid (below_step B5 B5.size hb6)
  clear hb6 B5 k4
  go_wp2
  go_ret
  exact ⟨rfl, B6.out⟩

theorem fnDataUser_walk (u b e i : Bool) (tsn st sq pr : Int) (A : Option Addr) (n c : Nat) (l : List UInt8) (w : World) (hs : Sl w (.slice A n c) l) (ht0 : 0 ≤ tsn) (ht : tsn ≤ 4294967295) (hp0 : 0 ≤ pr) (hp : pr ≤ 4294967295) :
    Calls Tryd.prog 11 #[.agg #[.bool u, .bool b, .bool e, .bool i, .int .u32 tsn, .int .i64 st, .int .i64 sq, .int .u32 pr, .slice A n c]] w fun z w' => z = .returned (.bool true) ∧ Below w.heap.size w w' := by
  by_cases h : 2147483647 < (n : Int)
  · exact fnDataUser_big u b e i tsn st sq pr A n c w h
  by_cases h2 : st < 0 ∨ 65535 < st ∨ sq < 0 ∨ 65535 < sq ∨ (n : Int) ≤ 0 ∨ 4096 < (n : Int)
  · exact fnDataUser_not u b e i tsn st sq pr A n c w (by omega) h2
  · exact fnDataUser_in u b e i tsn st sq pr A n c l w hs (by omega) (by omega) (by omega) (by omega) (by omega) (by omega) ht0 ht hp0 hp
end Go.Proofs.YtnaihmmfnffejaaDoor
