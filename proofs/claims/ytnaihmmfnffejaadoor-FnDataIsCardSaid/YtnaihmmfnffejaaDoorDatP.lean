/- Contract of DataOf. Conditions: the numbers fit; it has user data. -/
import Derived.Test.YtnaihmmfnffejaaDoorDatO
namespace Go.Proofs.YtnaihmmfnffejaaDoor
open Go.RowKit Go.Lib

set_option maxRecDepth 20000 in
set_option maxHeartbeats 1600000 in
theorem dataread_any (v : Value) (u b e i : Bool) (tsn st sq pr : Nat) (l : List UInt8) (w : World) (hs : Sl w v (chunk 0 (fl u b e i) (body tsn st sq pr l)))
    (hl : l.length ≤ 4096) (hl0 : 0 < l.length) (h1 : tsn < 4294967296) (h2 : st < 65536) (h3 : sq < 65536) (h4 : pr < 4294967296) :
    Calls Tryd.prog 35 #[v] w fun z w' =>
      ∃ A2 n2 c2, z = .returned (.tuple #[.agg #[.bool u, .bool b, .bool e, .bool i, .int .u32 tsn, .int .i64 st, .int .i64 sq, .int .u32 pr, .slice A2 n2 c2], .bool true]) ∧ Sl w' (.slice A2 n2 c2) l ∧ Below w.heap.size w w' := by
  have Hs := Lib.hid hs
  clear hs
  go_enter Tryd.func35, Tryd.ntmps35
  go_wp2_with fail
  refine (copied_any _ _ _ (Hs.out.alloc _) (by rw [chunk_length, body_length]; omega)).mono ?_
  rintro z w1 ⟨A1, n1, c1, rfl, hs1, hb1⟩
  have hd := Row.new w 59 #[.bool false, .bool false, .bool false, .bool false, .int .u32 0, .int .i64 0, .int .i64 0, .int .u32 0, .slice none 0 0]
  have Hd1 := Lib.hid (hd.below hb1 hd.lt)
  have Hs1 := Lib.hid hs1
  have Hb1 := Lib.hid (((Below.refl w.heap.size w).alloc (Nat.le_refl _) (.cells #[.bool false, .bool false, .bool false, .bool false, .int .u32 0, .int .i64 0, .int .i64 0, .int .u32 0, .slice none 0 0] 59)).trans (hb1.mono (by simp)))
  clear hs1 hb1 hd
  go_wp2_with fail
  refine (zzdataof_any A1 n1 c1 u b e i tsn st sq pr l _ Hs1.out hl hl0 h1 h2 h3 h4).mono ?_
  rintro z w2 ⟨A2, n2, c2, rfl, hs2, hb2⟩
  have Hd2 := Lib.hid (Hd1.out.below hb2 Hd1.out.lt)
  have Hs2 := Lib.hid hs2
  have Hb2 := Lib.hid (Hb1.out.trans (hb2.mono Hb1.out.size))
  clear hs2 hb2
  go_wp2_with fail
  have hg1 := Row.new w2 97 #[.bool u, .bool b, .bool e, .bool i, .int .u32 (tsn : Int), .int .u16 (st : Int), .int .u16 (sq : Int), .int .u32 (pr : Int), .slice A2 n2 c2]
  have hd1 := Hd2.out.alloc (.cells #[.bool u, .bool b, .bool e, .bool i, .int .u32 (tsn : Int), .int .u16 (st : Int), .int .u16 (sq : Int), .int .u32 (pr : Int), .slice A2 n2 c2] 97)
  have hsW := Hs2.out.alloc (.cells #[.bool u, .bool b, .bool e, .bool i, .int .u32 (tsn : Int), .int .u16 (st : Int), .int .u16 (sq : Int), .int .u32 (pr : Int), .slice A2 n2 c2] 97)
  have hbW := Hb2.out.alloc Hb2.out.size (.cells #[.bool u, .bool b, .bool e, .bool i, .int .u32 (tsn : Int), .int .u16 (st : Int), .int .u16 (sq : Int), .int .u32 (pr : Int), .slice A2 n2 c2] 97)
  have hne : w2.heap.size ≠ w.heap.size := by have := Hd2.out.lt; omega
  generalize (w2.alloc (.cells #[.bool u, .bool b, .bool e, .bool i, .int .u32 (tsn : Int), .int .u16 (st : Int), .int .u16 (sq : Int), .int .u32 (pr : Int), .slice A2 n2 c2] 97)) = W at hg1 hd1 hsW hbW ⊢
  generalize w2.heap.size = G at hg1 hne ⊢
  have hk := Row.nine (w := W.drew) hg1
  have Hg1 := Lib.hid hg1
  have Hd := Lib.hid hd1
  have HsW := Lib.hid hsW
  have HbW := Lib.hid hbW
  have hst : IntKind.i64.wrap (st : Int) = st := by simp [IntKind.wrap, IntKind.bits, IntKind.signed]; omega
  have hsq : IntKind.i64.wrap (sq : Int) = sq := by simp [IntKind.wrap, IntKind.bits, IntKind.signed]; omega
  clear hg1 hd1 hsW hbW Hs Hd1 Hs1 Hb1 Hd2 Hs2 Hb2 h1 h2 h3 h4
  go_region_held3 (fun w' => w'.cell? ⟨G, 0, none⟩ = some (.bool u) ∧ w'.cell? ⟨G, 1, none⟩ = some (.bool b) ∧ w'.cell? ⟨G, 2, none⟩ = some (.bool e) ∧ w'.cell? ⟨G, 3, none⟩ = some (.bool i) ∧ w'.cell? ⟨G, 4, none⟩ = some (.int .u32 (tsn : Int)) ∧ w'.cell? ⟨G, 5, none⟩ = some (.int .u16 (st : Int)) ∧ w'.cell? ⟨G, 6, none⟩ = some (.int .u16 (sq : Int)) ∧ w'.cell? ⟨G, 7, none⟩ = some (.int .u32 (pr : Int)) ∧ w'.cell? ⟨G, 8, none⟩ = some (.slice A2 n2 c2)) (first | (with_reducible exact hk) | (with_reducible exact hk3) | exact Row.nine (Row.far9 hg3 hne _ _ _ _ _ _ _ _ _))
    (first | (go_at_call 40; refine (copied_any _ _ _ HsW.out.drew (by omega)).mono ?_; rintro z w3 ⟨A3, n3, c3, rfl, hs3, hb3⟩; have Hs3 := Lib.hid hs3; have Hb3 := Lib.hid hb3; have hg3 := Hg1.out.drew.below hb3 Hg1.out.lt; have hk3 := hg3.nine; have hr3 := Hd.out.drew.below hb3 Hd.out.lt; have hy3 := hr3.nine; have hz3 := hr3.cold; clear hs3 hb3))
  have hf3 := (Hs3.out.apart hr3 (by intro x hx b; simp only [List.mem_cons, List.not_mem_nil, or_false] at hx; rcases hx with rfl | rfl | rfl | rfl | rfl | rfl | rfl | rfl | rfl <;> simp [bv]))
  have hR := hr3.set9 (.bool u) (.bool b) (.bool e) (.bool i) (.int .u32 (tsn : Int)) (.int .i64 (st : Int)) (.int .i64 (sq : Int)) (.int .u32 (pr : Int)) (.slice A3 n3 c3)
  have hO := only_set9 w3 w.heap.size (.bool u) (.bool b) (.bool e) (.bool i) (.int .u32 (tsn : Int)) (.int .i64 (st : Int)) (.int .i64 (sq : Int)) (.int .u32 (pr : Int)) (.slice A3 n3 c3)
  have hS := Hs3.out.only' hO hf3
  have hB := below_only (HbW.out.drew.trans (Hb3.out.mono HbW.out.size)) (Nat.le_trans HbW.out.size Hb3.out.size) hO (Nat.le_refl _)
  clear hk hk3 hy3 hz3 hr3 hg3 hf3 hO hst hsq
  generalize (World.setCell (World.setCell (World.setCell (World.setCell (World.setCell (World.setCell (World.setCell (World.setCell (World.setCell w3 ⟨w.heap.size, 0, none⟩ (.bool u)) ⟨w.heap.size, 1, none⟩ (.bool b)) ⟨w.heap.size, 2, none⟩ (.bool e)) ⟨w.heap.size, 3, none⟩ (.bool i)) ⟨w.heap.size, 4, none⟩ (.int .u32 (tsn : Int))) ⟨w.heap.size, 5, none⟩ (.int .i64 (st : Int))) ⟨w.heap.size, 6, none⟩ (.int .i64 (sq : Int))) ⟨w.heap.size, 7, none⟩ (.int .u32 (pr : Int))) ⟨w.heap.size, 8, none⟩ (.slice A3 n3 c3)) = W4 at hR hS hB ⊢
  have HR := Lib.hid hR
  have HS := Lib.hid hS
  have HB := Lib.hid hB
  clear hR hS hB
  go_wp2
  refine bodyPost_ret (results_cell_tmp_row rfl _ _ w.heap.size _ _ (0, 0) _ rfl HR.out Tryd.underlying59 rfl da_info) rfl ?_
  exact ⟨A3, n3, c3, rfl, HS.out, HB.out⟩
end Go.Proofs.YtnaihmmfnffejaaDoor
