/- Contracts of DataText: a chunk of user data is written. Conditions: those that IsData tells. -/
import Derived.Test.YtnaihmmfnffejaaDoorDatM
namespace Go.Proofs.YtnaihmmfnffejaaDoor
open Go.RowKit Go.Lib

theorem fl_le (u b e i : Bool) : fl u b e i ≤ 15 := by cases u <;> cases b <;> cases e <;> cases i <;> decide

theorem zzdatatext_any (u b e i : Bool) (tsn st sq pr : Int) (A : Option Addr) (n c : Nat) (l : List UInt8) (w : World)
    (hs : Sl w (.slice A n c) l) (hl : l.length ≤ 4096) (hl0 : 0 < l.length)
    (ht0 : 0 ≤ tsn) (ht : tsn ≤ 4294967295) (h1 : 0 ≤ st) (h2 : st ≤ 65535) (h3 : 0 ≤ sq) (h4 : sq ≤ 65535) (hp0 : 0 ≤ pr) (hp : pr ≤ 4294967295) :
    Calls Tryd.prog 56 #[.agg #[.bool u, .bool b, .bool e, .bool i, .int .u32 tsn, .int .u16 st, .int .u16 sq, .int .u32 pr, .slice A n c]] w
      (RetSlE w (chunk 0 (fl u b e i) (body tsn.toNat st.toNat sq.toNat pr.toNat l))) := by
  have Hs := Lib.hid hs
  clear hs
  go_enter Tryd.func56, Tryd.ntmps56
  go_wp2_with fail
  refine (zzpayload_any u b e i tsn st sq pr A n c _).mono ?_
  rintro z w1 ⟨g, rfl, hr1, hg1, hb1⟩
  have Hr1 := Lib.hid hr1
  have Hs1 := Lib.hid ((Hs.out.alloc _).below hb1)
  have Hb1 := Lib.hid (((Below.refl w.heap.size w).alloc (Nat.le_refl _) (.cells #[.bool u, .bool b, .bool e, .bool i, .int .u32 tsn, .int .u16 st, .int .u16 sq, .int .u32 pr, .slice A n c] 97)).trans (hb1.mono (by simp)))
  have Hg1 := Lib.hid (show w.heap.size ≤ g by simp at hg1; omega)
  clear hr1 hg1 hb1
  go_wp2_with fail
  refine (dtmarshal g _ u b e i tsn st sq pr A n c l _ Hr1.out Hs1.out hl hl0 ht0 ht h1 h2 h3 h4 hp0 hp).mono ?_
  rintro z w2 ⟨A2, n2, c2, rfl, hs2, hg2⟩
  have Hs2 := Lib.hid hs2
  have Hb2 := Lib.hid (below_only Hb1.out Hb1.out.size hg2 Hg1.out)
  clear hs2 hg2
  go_wp2
  go_ret2
  exact ⟨A2, n2, c2, rfl, Hs2.out, Hb2.out⟩

theorem datatext_any (u b e i : Bool) (tsn st sq pr : Int) (A : Option Addr) (n c : Nat) (l : List UInt8) (w : World)
    (hs : Sl w (.slice A n c) l) (hl : l.length ≤ 4096) (hl0 : 0 < l.length)
    (ht0 : 0 ≤ tsn) (ht : tsn ≤ 4294967295) (h1 : 0 ≤ st) (h2 : st ≤ 65535) (h3 : 0 ≤ sq) (h4 : sq ≤ 65535) (hp0 : 0 ≤ pr) (hp : pr ≤ 4294967295) :
    Calls Tryd.prog 34 #[.agg #[.bool u, .bool b, .bool e, .bool i, .int .u32 tsn, .int .i64 st, .int .i64 sq, .int .u32 pr, .slice A n c]] w
      (RetSlB w (chunk 0 (fl u b e i) (body tsn.toNat st.toNat sq.toNat pr.toNat l))) := by
  have Hs := Lib.hid hs
  clear hs
  go_enter Tryd.func34, Tryd.ntmps34
  go_wp2_with fail
  refine (dataOf_any u b e i tsn st sq pr A n c l _ (Hs.out.alloc _) hl h1 h2 h3 h4).mono ?_
  rintro z w1 ⟨A1, n1, c1, rfl, hs1, hb1⟩
  have Hs1 := Lib.hid hs1
  have Hb1 := Lib.hid (((Below.refl w.heap.size w).alloc (Nat.le_refl _) (.cells #[.bool u, .bool b, .bool e, .bool i, .int .u32 tsn, .int .i64 st, .int .i64 sq, .int .u32 pr, .slice A n c] 59)).trans (hb1.mono (by simp)))
  clear hs1 hb1
  go_wp2_with fail
  refine (zzdatatext_any u b e i tsn st sq pr A1 n1 c1 l _ Hs1.out hl hl0 ht0 ht h1 h2 h3 h4 hp0 hp).mono ?_
  rintro z w2 ⟨A2, n2, c2, rfl, hs2, hb2⟩
  have Hs2 := Lib.hid hs2
  have Hb2 := Lib.hid (Hb1.out.trans (hb2.mono Hb1.out.size))
  clear hs2 hb2
  go_wp2_with fail
  go_region_with ((go_at_call 40; refine (copied_any _ _ _ Hs2.out.drew (by rw [chunk_length, body_length]; omega)).mono ?_; rintro e w3 ⟨A3, n3, c3, rfl, hs3, hb3⟩))
  have Hs3 := Lib.hid hs3
  have Hb3 := Lib.hid hb3
  clear hs3 hb3
  go_wp2
  go_ret2
  exact ⟨A3, n3, c3, rfl, Hs3.out, Hb2.out.drew.trans (Hb3.out.mono Hb2.out.size)⟩
end Go.Proofs.YtnaihmmfnffejaaDoor
