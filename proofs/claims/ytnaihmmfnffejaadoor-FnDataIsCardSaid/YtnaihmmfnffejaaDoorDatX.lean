/- The walk of FnDataIs. No condition but that the numbers are of their kinds. -/
import Derived.Test.YtnaihmmfnffejaaDoorDatW
namespace Go.Proofs.YtnaihmmfnffejaaDoor
open Go.RowKit Go.Lib

section
variable (u b e i : Bool) (tsn st sq pr : Int) (A : Option Addr) (n c : Nat)

theorem fnDataIs_big (w : World) (h : 2147483647 < (n : Int)) :
    Calls Tryd.prog 10 #[.agg #[.bool u, .bool b, .bool e, .bool i, .int .u32 tsn, .int .i64 st, .int .i64 sq, .int .u32 pr, .slice A n c]] w fun z w' => z = .returned (.bool true) ∧ Below w.heap.size w w' := by
  go_enter Tryd.func10, Tryd.ntmps10
  go_wp2_with fail
  refine (fits2_any u b e i tsn st sq pr A n c _).mono ?_
  rintro z w1 ⟨rfl, hb1⟩
  rw [decide_eq_false (by omega)]
  have B1 := Lib.hid (((Below.refl w.heap.size w).alloc (Nat.le_refl _) (.cells #[.bool u, .bool b, .bool e, .bool i, .int .u32 tsn, .int .i64 st, .int .i64 sq, .int .u32 pr, .slice A n c] 59)).trans (hb1.mono (by simp)))
  clear hb1
  go_wp2
  go_ret
  exact ⟨rfl, B1.out⟩

theorem fnDataIs_not (w : World) (h0 : (n : Int) ≤ 2147483647) (h : st < 0 ∨ 65535 < st ∨ sq < 0 ∨ 65535 < sq ∨ (n : Int) ≤ 0 ∨ 4096 < (n : Int)) :
    Calls Tryd.prog 10 #[.agg #[.bool u, .bool b, .bool e, .bool i, .int .u32 tsn, .int .i64 st, .int .i64 sq, .int .u32 pr, .slice A n c]] w fun z w' => z = .returned (.bool true) ∧ Below w.heap.size w w' := by
  have Hh := Lib.hid h
  have hg := Row.new w 59 #[.bool u, .bool b, .bool e, .bool i, .int .u32 tsn, .int .i64 st, .int .i64 sq, .int .u32 pr, .slice A n c]
  clear h
  go_enter Tryd.func10, Tryd.ntmps10
  go_wp2_with fail
  refine (fits2_any u b e i tsn st sq pr A n c _).mono ?_
  rintro z w1 ⟨rfl, hb1⟩
  rw [decide_eq_true h0]
  have B1 := Lib.hid (((Below.refl w.heap.size w).alloc (Nat.le_refl _) (.cells #[.bool u, .bool b, .bool e, .bool i, .int .u32 tsn, .int .i64 st, .int .i64 sq, .int .u32 pr, .slice A n c] 59)).trans (hb1.mono (by simp)))
  have k1 := (hg.below hb1 hg.lt).nine
  clear hb1 hg
  go_wp2_with fail
  refine (isData_no u b e i tsn st sq pr A n c _ Hh.out).mono ?_
  rintro z w2 ⟨rfl, hb2⟩
  have B2 := Lib.hid (below_step B1.out B1.out.size hb2)
  clear hb2
  go_wp2
  go_ret
  exact ⟨rfl, B2.out⟩
end

theorem fnDataIs_in (u b e i : Bool) (tsn st sq pr : Int) (A : Option Addr) (n c : Nat) (l : List UInt8) (w : World) (hs : Sl w (.slice A n c) l)
    (h1 : 0 ≤ st) (h2 : st ≤ 65535) (h3 : 0 ≤ sq) (h4 : sq ≤ 65535) (h5 : 0 < (n : Int)) (h6 : (n : Int) ≤ 4096) (ht0 : 0 ≤ tsn) (ht : tsn ≤ 4294967295) (hp0 : 0 ≤ pr) (hp : pr ≤ 4294967295) :
    Calls Tryd.prog 10 #[.agg #[.bool u, .bool b, .bool e, .bool i, .int .u32 tsn, .int .i64 st, .int .i64 sq, .int .u32 pr, .slice A n c]] w fun z w' => z = .returned (.bool true) ∧ Below w.heap.size w w' := by
  have hn := hs.len
  have hl : l.length ≤ 4096 := by omega
  have hl0 : 0 < l.length := by omega
  have hg := Row.new w 59 #[.bool u, .bool b, .bool e, .bool i, .int .u32 tsn, .int .i64 st, .int .i64 sq, .int .u32 pr, .slice A n c]
  have Hs := Lib.hid hs
  have Hl := Lib.hid hl
  have Hl0 := Lib.hid hl0
  clear hs hn hl hl0
  go_enter Tryd.func10, Tryd.ntmps10
  go_wp2_with fail
  refine (fits2_any u b e i tsn st sq pr A n c _).mono ?_
  rintro z w1 ⟨rfl, hb1⟩
  rw [decide_eq_true (by omega)]
  have B1 := Lib.hid (((Below.refl w.heap.size w).alloc (Nat.le_refl _) (.cells #[.bool u, .bool b, .bool e, .bool i, .int .u32 tsn, .int .i64 st, .int .i64 sq, .int .u32 pr, .slice A n c] 59)).trans (hb1.mono (by simp)))
  have G1 := Lib.hid (hg.below hb1 hg.lt)
  have k1 := G1.out.nine
  clear hb1 hg
  go_wp2_with fail
  refine (isData_yes u b e i tsn st sq pr A n c _ h1 h2 h3 h4 h5 h6).mono ?_
  rintro z w2 ⟨rfl, hb2⟩
  have B2 := Lib.hid (below_step B1.out B1.out.size hb2)
  have G2 := Lib.hid (G1.out.below hb2 G1.out.lt)
  have k2 := G2.out.nine
  clear hb2 k1
  go_wp2_with fail
  refine (datatext_any u b e i tsn st sq pr A n c l _ (Hs.out.below B2.out) Hl.out Hl0.out ht0 ht h1 h2 h3 h4 hp0 hp).mono ?_
  rintro z w3 ⟨A3, n3, c3, rfl, hs3, hb3⟩
  have B3 := Lib.hid (below_step B2.out B2.out.size hb3)
  have G3 := Lib.hid (G2.out.below hb3 G2.out.lt)
  have S3 := Lib.hid hs3
  have k3 := G3.out.nine
  clear hb3 hs3 k2
  go_wp2_with fail
  refine (specdata_any u b e i tsn st sq pr A n c l _ (Hs.out.below B3.out) Hl.out ht0 ht h1 h2 h3 h4 hp0 hp).mono ?_
  rintro z w4 ⟨A4, n4, c4, rfl, hs4, hb4⟩
  have B4 := Lib.hid (below_step B3.out B3.out.size hb4)
  have G4 := Lib.hid (G3.out.below hb4 G3.out.lt)
  have S34 := Lib.hid (S3.out.below hb4)
  have S4 := Lib.hid hs4
  have k4 := G4.out.nine
  clear hb4 hs4 k3
  go_wp2_with fail
  refine (dataread_any _ u b e i tsn.toNat st.toNat sq.toNat pr.toNat l _ S4.out Hl.out Hl0.out (by omega) (by omega) (by omega) (by omega)).mono ?_
  rintro z w5 ⟨A5, n5, c5, rfl, hs5, hb5⟩
  rw [show ((tsn.toNat : Nat) : Int) = tsn by omega, show ((st.toNat : Nat) : Int) = st by omega, show ((sq.toNat : Nat) : Int) = sq by omega, show ((pr.toNat : Nat) : Int) = pr by omega]
  have B5 := Lib.hid (below_step B4.out B4.out.size hb5)
  have G5 := Lib.hid (G4.out.below hb5 G4.out.lt)
  have S35 := Lib.hid (S34.out.below hb5)
  have S5 := Lib.hid hs5
  have k5 := G5.out.nine
  have f5 := G5.out.frozen 8
  have hlt : w.heap.size < w5.heap.size := G5.out.lt
  have hne : ¬ w.heap.size = w5.heap.size := by omega
  have hne' : ¬ w5.heap.size = w.heap.size := by omega
  clear hb5 hs5 k4
  go_wp2_with fail
  have hR := (G5.out.set 8 (.slice none 0 0)).alloc (.cells #[.bool u, .bool b, .bool e, .bool i, .int .u32 tsn, .int .i64 st, .int .i64 sq, .int .u32 pr, .slice none 0 0] 59)
  have hO := only_set (only_refl w5 (some w.heap.size)) 8 (.slice none 0 0)
  have hx : ∀ x ∈ [Value.bool u, .bool b, .bool e, .bool i, .int .u32 tsn, .int .i64 st, .int .i64 sq, .int .u32 pr, .slice A n c], ∀ y, x ≠ bv y := by
    intro x hx y; simp only [List.mem_cons, List.not_mem_nil, or_false] at hx; rcases hx with rfl | rfl | rfl | rfl | rfl | rfl | rfl | rfl | rfl <;> simp [bv]
  have hb := (S35.out.only' hO (S35.out.apart G5.out hx)).alloc (.cells #[.bool u, .bool b, .bool e, .bool i, .int .u32 tsn, .int .i64 st, .int .i64 sq, .int .u32 pr, .slice none 0 0] 59)
  have hu := (S5.out.only' hO (S5.out.apart G5.out hx)).alloc (.cells #[.bool u, .bool b, .bool e, .bool i, .int .u32 tsn, .int .i64 st, .int .i64 sq, .int .u32 pr, .slice none 0 0] 59)
  have hB := (below_only B5.out B5.out.size hO (Nat.le_refl _)).alloc (by have := B5.out.size; simpa [World.setCell] using this) (.cells #[.bool u, .bool b, .bool e, .bool i, .int .u32 tsn, .int .i64 st, .int .i64 sq, .int .u32 pr, .slice none 0 0] 59)
  clear hO hx k5 f5 hlt hne hne'
  generalize (w5.setCell ⟨w.heap.size, 8, none⟩ (.slice none 0 0)).alloc (.cells #[.bool u, .bool b, .bool e, .bool i, .int .u32 tsn, .int .i64 st, .int .i64 sq, .int .u32 pr, .slice none 0 0] 59) = W at hR hb hu hB ⊢
  have B := Lib.hid hB
  have Hb := Lib.hid hb
  have Hu := Lib.hid hu
  have G := Lib.hid hR
  clear hB hb hu hR
  refine (samedata_any u b e i tsn st sq pr none none 0 0 0 0 _).mono ?_
  rintro z w6 ⟨rfl, hb6⟩
  have B6 := Lib.hid (below_step B.out B.out.size hb6)
  have G6 := Lib.hid (G.out.below hb6 G.out.lt)
  have Hb6 := Lib.hid (Hb.out.below hb6)
  have Hu6 := Lib.hid (Hu.out.below hb6)
  have k6 := Row.nine (a0 := .bool u) (a1 := .bool b) (a2 := .bool e) (a3 := .bool i) (a4 := .int .u32 tsn) (a5 := .int .i64 st) (a6 := .int .i64 sq) (a7 := .int .u32 pr) (a8 := .slice none 0 0) G6.out
  clear hb6
  go_wp2_with fail
  refine (full_any u b e i tsn st sq pr none A5 0 0 n5 c5 _).mono ?_
  rintro z w7 ⟨rfl, hb7⟩
  have B7 := Lib.hid (below_step B6.out B6.out.size hb7)
  have Hb7 := Lib.hid (Hb6.out.below hb7)
  have Hu7 := Lib.hid (Hu6.out.below hb7)
  clear hb7
  go_wp2_with fail
  refine (specdata_any u b e i tsn st sq pr A5 n5 c5 l _ Hu7.out Hl.out ht0 ht h1 h2 h3 h4 hp0 hp).mono ?_
  rintro z w8 ⟨A8, n8, c8, rfl, hs8, hb8⟩
  have B8 := Lib.hid (below_step B7.out B7.out.size hb8)
  have Hb8 := Lib.hid (Hb7.out.below hb8)
  have S8 := Lib.hid hs8
  clear hb8 hs8
  go_wp2_with fail
  refine (same_any _ _ _ _ _ Hb8.out S8.out).mono ?_
  rintro z w9 ⟨rfl, rfl⟩
  rw [decide_eq_true (rfl : chunk 0 (fl u b e i) (body tsn.toNat st.toNat sq.toNat pr.toNat l) = chunk 0 (fl u b e i) (body tsn.toNat st.toNat sq.toNat pr.toNat l))]
  clear k6
  go_wp2
  go_ret
  exact ⟨rfl, B8.out⟩

theorem fnDataIs_walk (u b e i : Bool) (tsn st sq pr : Int) (A : Option Addr) (n c : Nat) (l : List UInt8) (w : World) (hs : Sl w (.slice A n c) l) (ht0 : 0 ≤ tsn) (ht : tsn ≤ 4294967295) (hp0 : 0 ≤ pr) (hp : pr ≤ 4294967295) :
    Calls Tryd.prog 10 #[.agg #[.bool u, .bool b, .bool e, .bool i, .int .u32 tsn, .int .i64 st, .int .i64 sq, .int .u32 pr, .slice A n c]] w fun z w' => z = .returned (.bool true) ∧ Below w.heap.size w w' := by
  by_cases h : 2147483647 < (n : Int)
  · exact fnDataIs_big u b e i tsn st sq pr A n c w h
  by_cases h2 : st < 0 ∨ 65535 < st ∨ sq < 0 ∨ 65535 < sq ∨ (n : Int) ≤ 0 ∨ 4096 < (n : Int)
  · exact fnDataIs_not u b e i tsn st sq pr A n c w (by omega) h2
  · exact fnDataIs_in u b e i tsn st sq pr A n c l w hs (by omega) (by omega) (by omega) (by omega) (by omega) (by omega) ht0 ht hp0 hp
end Go.Proofs.YtnaihmmfnffejaaDoor
