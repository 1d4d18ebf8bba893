/- Contract of the marshal of a chunk of user data. Conditions: the numbers fit; it has user data. -/
import Derived.Test.YtnaihmmfnffejaaDoorDat
namespace Go.Proofs.YtnaihmmfnffejaaDoor
open Go.RowKit Go.Lib

theorem isidata_no (gc : Nat) (t : TypeId) (xs : List Value) (w : World) (hr : Row w gc t xs) (h0 : xs[0]? = some (.int .u8 0)) (h15 : xs[15]? = some (.bool false)) :
    Calls Tryd.prog 84 #[.pointer (some ⟨gc, 0, none⟩)] w fun e w' => e = .returned (.bool false) ∧ w = w' := by
  have k0 : w.cell? ⟨gc, 0, none⟩ = some (.int .u8 0) := by rw [hr.cell, h0]
  have k15 : w.cell? ⟨gc, 15, none⟩ = some (.bool false) := by rw [hr.cell, h15]
  clear hr h0 h15
  go_enter Tryd.func84, Tryd.ntmps84
  go_wp2
  go_ret
  exact ⟨rfl, rfl⟩

def fl (u b e i : Bool) : Nat := (if e then 1 else 0) + (if b then 2 else 0) + (if u then 4 else 0) + (if i then 8 else 0)
/-- The value of a chunk of user data. -/
def body (tsn st sq pr : Nat) (l : List UInt8) : List UInt8 := be 4 tsn ++ (be 2 st ++ (be 2 sq ++ (be 4 pr ++ l)))
theorem body_length (tsn st sq pr : Nat) (l : List UInt8) : (body tsn st sq pr l).length = 12 + l.length := by simp [body, be_length]; omega
theorem body_put (n : Nat) (tsn st sq pr : Nat) (l : List UInt8) (hn : n = 12 + l.length) :
    put (put (put (put (put (List.replicate n 0) 0 (be 4 tsn)) 4 (be 2 st)) 6 (be 2 sq)) 8 (be 4 pr)) 12 l = body tsn st sq pr l := by
  have h1 := put_put (List.replicate n 0) 0 (be 4 tsn) (be 2 st) (by simp [be_length]; omega)
  have h2 := put_put (List.replicate n 0) 0 (be 4 tsn ++ be 2 st) (be 2 sq) (by simp [be_length]; omega)
  have h3 := put_put (List.replicate n 0) 0 (be 4 tsn ++ be 2 st ++ be 2 sq) (be 4 pr) (by simp [be_length]; omega)
  have h4 := put_put (List.replicate n 0) 0 (be 4 tsn ++ be 2 st ++ be 2 sq ++ be 4 pr) l (by simp [be_length]; omega)
  simp only [List.length_append, be_length, Nat.zero_add] at h1 h2 h3 h4
  rw [h1, h2, h3, h4, put_whole _ _ (by simp [be_length]; omega)]
  simp [body]

theorem chunk_gen (typ f : Nat) (l : List UInt8) : chunk typ f l = UInt8.ofNat typ :: UInt8.ofNat f :: (be 2 (l.length + 4) ++ l) := by simp [chunk, Nat.add_comm]

theorem or_facts : bits BinOp.or IntKind.u8 0 2 = 2 ∧ bits BinOp.or IntKind.u8 1 2 = 3 ∧ bits BinOp.or IntKind.u8 0 4 = 4 ∧ bits BinOp.or IntKind.u8 1 4 = 5 ∧ bits BinOp.or IntKind.u8 2 4 = 6 ∧ bits BinOp.or IntKind.u8 3 4 = 7 ∧ bits BinOp.or IntKind.u8 0 8 = 8 ∧ bits BinOp.or IntKind.u8 1 8 = 9 ∧ bits BinOp.or IntKind.u8 2 8 = 10 ∧ bits BinOp.or IntKind.u8 3 8 = 11 ∧ bits BinOp.or IntKind.u8 4 8 = 12 ∧ bits BinOp.or IntKind.u8 5 8 = 13 ∧ bits BinOp.or IntKind.u8 6 8 = 14 ∧ bits BinOp.or IntKind.u8 7 8 = 15 :=
  ⟨by rfl, by rfl, by rfl, by rfl, by rfl, by rfl, by rfl, by rfl, by rfl, by rfl, by rfl, by rfl, by rfl, by rfl⟩

theorem dt_leaf {w w6 : World} {gc G m : Nat} {t : TypeId} {ty f raw : Value} {u b e i : Bool} {tsn st sq pr : Int} {v : Value} {d : List UInt8} (k : Int) (hR : Row w6 gc t (pay ty f raw u b e i tsn st sq pr v)) (hS : Sl w6 (.slice (some ⟨G, 0, none⟩) m m) d)
    (hne : ¬ gc = G) (hB : Below w.heap.size w w6) (hd : d.length ≤ 65531) (hk : Value.int .u8 k = bv (UInt8.ofNat (fl u b e i))) :
    Calls Tryd.prog 64 #[.pointer (some ⟨gc, 0, none⟩)] (((w6.setCell ⟨gc, 1, none⟩ (.int .u8 k)).setCell ⟨gc, 0, none⟩ (.int .u8 0)).setCell ⟨gc, 2, none⟩ (.slice (some ⟨G, 0, none⟩) m m)) (RetSlO w gc (chunk 0 (fl u b e i) d)) := by
  rw [hk]
  have hg := only_set (only_set (only_set (only_refl w6 (some gc)) 1 (bv (UInt8.ofNat (fl u b e i)))) 0 (.int .u8 0)) 2 (.slice (some ⟨G, 0, none⟩) m m)
  refine (hmarshal_any gc t 0 (UInt8.ofNat (fl u b e i)) (.slice (some ⟨G, 0, none⟩) m m) [.int .u64 0, .bool u, .bool b, .bool e, .bool i, .int .u32 tsn, .int .u16 st, .int .u16 sq, .int .u32 0, .int .u32 0, .int .u32 pr, v, .bool false, .bool false, .int .u32 0, .int .u32 0, .bool false, .bool false, .bool false, .pointer none, .pointer none, .pointer none, .bool false] d _
    (((hR.set 1 (bv (UInt8.ofNat (fl u b e i)))).set 0 (.int .u8 0)).set 2 (.slice (some ⟨G, 0, none⟩) m m)) (hS.only hg (fun A n c e => by cases e; exact fun h => hne h.symm)) hd).mono ?_
  rintro z w7 ⟨A7, n7, c7, rfl, hs7, hb7⟩
  exact ⟨A7, n7, c7, rfl, by rw [chunk_gen]; exact hs7, only_trans (grown_of_below hB (some gc)) (only_below hg hb7)⟩

theorem pay_get {w : World} {gc : Nat} {t : TypeId} {ty fl raw : Value} {u b e i : Bool} {tsn st sq pr : Int} {v : Value} (h : Row w gc t (pay ty fl raw u b e i tsn st sq pr v)) :
    w.cell? ⟨gc, 0, none⟩ = some ty ∧ w.cell? ⟨gc, 1, none⟩ = some fl ∧ w.cell? ⟨gc, 2, none⟩ = some raw ∧ w.cell? ⟨gc, 4, none⟩ = some (.bool u) ∧ w.cell? ⟨gc, 5, none⟩ = some (.bool b) ∧ w.cell? ⟨gc, 6, none⟩ = some (.bool e) ∧ w.cell? ⟨gc, 7, none⟩ = some (.bool i) ∧
      w.cell? ⟨gc, 8, none⟩ = some (.int .u32 tsn) ∧ w.cell? ⟨gc, 9, none⟩ = some (.int .u16 st) ∧ w.cell? ⟨gc, 10, none⟩ = some (.int .u16 sq) ∧ w.cell? ⟨gc, 13, none⟩ = some (.int .u32 pr) ∧ w.cell? ⟨gc, 14, none⟩ = some v ∧ w.cell? ⟨gc, 15, none⟩ = some (.bool false) := by
  simp only [h.cell]
  exact ⟨rfl, rfl, rfl, rfl, rfl, rfl, rfl, rfl, rfl, rfl, rfl, rfl, rfl⟩

set_option maxRecDepth 20000 in
set_option maxHeartbeats 1600000 in
theorem dtmarshal (gc : Nat) (t : TypeId) (u b e i : Bool) (tsn st sq pr : Int) (A : Option Addr) (n c : Nat) (l : List UInt8) (w : World)
    (hr : Row w gc t (pay (.int .u8 0) (.int .u8 0) (.slice none 0 0) u b e i tsn st sq pr (.slice A n c))) (hs : Sl w (.slice A n c) l) (hl : l.length ≤ 4096) (hl0 : 0 < l.length)
    (ht0 : 0 ≤ tsn) (ht : tsn ≤ 4294967295) (h1 : 0 ≤ st) (h2 : st ≤ 65535) (h3 : 0 ≤ sq) (h4 : sq ≤ 65535) (hp0 : 0 ≤ pr) (hp : pr ≤ 4294967295) :
    Calls Tryd.prog 75 #[.pointer (some ⟨gc, 0, none⟩)] w (RetSlO w gc (chunk 0 (fl u b e i) (body tsn.toNat st.toNat sq.toNat pr.toNat l))) := by
  have hgc := hr.lt
  have hn := hs.len
  obtain ⟨m, hm⟩ : ∃ m, m = 12 + n := ⟨_, rfl⟩
  have m12 : 12 < m := by omega
  have mle : m ≤ 4108 := by omega
  have Hm := Lib.hid hm
  have Hn := Lib.hid hn
  have Hr := Lib.hid hr
  have Hs := Lib.hid hs
  have k := pay_get hr
  have em : (12 : Int) + (n : Int) = (m : Int) := by omega
  clear hr hs hm hn hl
  go_enter Tryd.func75, Tryd.ntmps75
  go_wp2_with fail
  refine (isidata_no gc t _ _ Hr.out rfl rfl).mono ?_
  rintro z w0 ⟨rfl, rfl⟩
  go_wp2_with (at_make; refine wpList_make_row _ rfl _ _ _ rfl bT rfl _ _ _ _ m rfl rfl ?d1 ?d2 ?c1 ?c2 ?_)
  case d1 => first | rfl | omega
  case d2 => first | rfl | omega
  case c1 => omega
  case c2 => unfold maxLen; omega
  intro w1 hrow hb1
  have hne : ¬ gc = w.heap.size := by omega
  have hrow' : Row w1 w.heap.size 5 (bvs (List.replicate m 0)) := by rw [bvs_zero]; exact hrow
  have hR := Hr.out.below hb1 hgc
  have P0 := Lib.hid (Puts.start hrow')
  have L0 : Hid ((List.replicate m (0 : UInt8)).length = m) := by simp [Hid]
  have R0 := Lib.hid hR
  have Hb1 := Lib.hid hb1
  have k := pay_get hR
  clear hrow hrow' hR hb1
  have c0 : ¬ m = 0 := by omega
  have c4 : ¬ m = 4 := by omega
  have c6 : ¬ m = 6 := by omega
  have c8 : ¬ m = 8 := by omega
  have c12 : ¬ m = 12 := by omega
  have i4 : (4 : Int) ≤ (m : Int) := by omega
  have i6 : (6 : Int) ≤ (m : Int) := by omega
  have i8 : (8 : Int) ≤ (m : Int) := by omega
  have i12 : (12 : Int) ≤ (m : Int) := by omega
  go_wp2_with fail
  refine wp_region_tail 7 (by kernel_rfl) (by kernel_rfl) ?_
  simp only [List.take_succ_cons, List.take_zero, List.drop_succ_cons, List.drop_zero]
  repeat still_step
  refine wpStill_nil ?_
  go_wp2_with fail
  refine (put32_any _ 0 _ _ _ _ _ w1.drew P0.out.drew.1 (by have := L0.out; omega) (by omega) ht0 ht).mono ?_
  rintro z w2 ⟨rfl, hP⟩
  have hR := R0.out.drew.grown hP.2 (by intro e; injection e with e; exact hne e)
  have hP := P0.out.drew.trans hP
  have k := pay_get hR
  have P1 := Lib.hid hP
  have L1 : Hid ((put (List.replicate m 0) 0 (be 4 tsn.toNat)).length = m) := by have := L0.out; show _ = m; rw [put_length _ _ _ (by rw [be_length]; omega)]; exact this
  have R1 := Lib.hid hR
  clear hP hR
  go_wp2_with fail
  refine wp_region_tail 7 (by kernel_rfl) (by kernel_rfl) ?_
  simp only [List.take_succ_cons, List.take_zero, List.drop_succ_cons, List.drop_zero]
  repeat still_step
  refine wpStill_nil ?_
  go_wp2_with fail
  refine (put16_any _ 4 _ _ _ _ _ w2.drew P1.out.drew.1 (by have := L1.out; omega) (by omega) h1 h2).mono ?_
  rintro z w3 ⟨rfl, hP⟩
  have hR := R1.out.drew.grown hP.2 (by intro e; injection e with e; exact hne e)
  have hP := P1.out.drew.trans hP
  have k := pay_get hR
  have P2 := Lib.hid hP
  have L2 : Hid ((put (put (List.replicate m 0) 0 (be 4 tsn.toNat)) 4 (be 2 st.toNat)).length = m) := by have := L1.out; show _ = m; rw [put_length _ _ _ (by rw [be_length]; omega)]; exact this
  have R2 := Lib.hid hR
  clear hP hR
  go_wp2_with fail
  refine wp_region_tail 7 (by kernel_rfl) (by kernel_rfl) ?_
  simp only [List.take_succ_cons, List.take_zero, List.drop_succ_cons, List.drop_zero]
  repeat still_step
  refine wpStill_nil ?_
  go_wp2_with fail
  refine (put16_any _ 6 _ _ _ _ _ w3.drew P2.out.drew.1 (by have := L2.out; omega) (by omega) h3 h4).mono ?_
  rintro z w4 ⟨rfl, hP⟩
  have hR := R2.out.drew.grown hP.2 (by intro e; injection e with e; exact hne e)
  have hP := P2.out.drew.trans hP
  have k := pay_get hR
  have P3 := Lib.hid hP
  have L3 : Hid ((put (put (put (List.replicate m 0) 0 (be 4 tsn.toNat)) 4 (be 2 st.toNat)) 6 (be 2 sq.toNat)).length = m) := by have := L2.out; show _ = m; rw [put_length _ _ _ (by rw [be_length]; omega)]; exact this
  have R3 := Lib.hid hR
  clear hP hR
  go_wp2_with fail
  refine wp_region_tail 7 (by kernel_rfl) (by kernel_rfl) ?_
  simp only [List.take_succ_cons, List.take_zero, List.drop_succ_cons, List.drop_zero]
  repeat still_step
  refine wpStill_nil ?_
  go_wp2_with fail
  refine (put32_any _ 8 _ _ _ _ _ w4.drew P3.out.drew.1 (by have := L3.out; omega) (by omega) hp0 hp).mono ?_
  rintro z w5 ⟨rfl, hP⟩
  have hR := R3.out.drew.grown hP.2 (by intro e; injection e with e; exact hne e)
  have hP := P3.out.drew.trans hP
  have k := pay_get hR
  have P4 := Lib.hid hP
  have L4 : Hid ((put (put (put (put (List.replicate m 0) 0 (be 4 tsn.toNat)) 4 (be 2 st.toNat)) 6 (be 2 sq.toNat)) 8 (be 4 pr.toNat)).length = m) := by have := L3.out; show _ = m; rw [put_length _ _ _ (by rw [be_length]; omega)]; exact this
  have R4 := Lib.hid hR
  clear hP hR
  go_wp2_with fail
  refine wp_region_tail 6 (by kernel_rfl) (by kernel_rfl) ?_
  simp only [List.take_succ_cons, List.take_zero, List.drop_succ_cons, List.drop_zero]
  repeat still_step
  refine wpStill_nil ?_
  refine wpList_copy_put rfl _ _ _ _ rfl bT _ _ _ rfl _ rfl w.heap.size 12 _ _ l P4.out.drew.1 ?s3 ?c3 ?c4 ?c5 ?_
  case s3 => exact (Hs.out.below (below_only Hb1.out Hb1.out.size P4.out.2 (Nat.le_refl _))).drew
  case c3 => have := Hm.out; have := Hn.out; omega
  case c4 => intro hp; rfl
  case c5 => have := L4.out; have := Hm.out; have := Hn.out; omega
  intro w6 hP
  have hR := R4.out.drew.grown hP.2 (by intro e; injection e with e; exact hne e)
  have hP := P4.out.drew.trans hP
  have k := pay_get hR
  have f0 := hR.frozen 0
  have f1 := hR.frozen 1
  have f2 := hR.frozen 2
  have hP5 := hP.1
  rw [body_put m _ _ _ _ l (by have := Hm.out; have := Hn.out; omega)] at hP5
  have S5 := Lib.hid (hP5.sl (n := m) (c := m) (by rw [body_length]; have := Hm.out; have := Hn.out; omega) (Nat.le_refl _) (by unfold maxLen; omega))
  have G5 := Lib.hid (below_only Hb1.out Hb1.out.size hP.2 (Nat.le_refl _))
  have R5 := Lib.hid hR
  have N5 : Hid (l.length ≤ 4096) := by have := Hm.out; have := Hn.out; show l.length ≤ 4096; omega
  clear hP hR hP5 P0 P1 P2 P3 P4 R0 R1 R2 R3 R4 L0 L1 L2 L3 L4
  clear c0 c4 c6 c8 c12 i4 i6 i8 i12 em Hm Hn
  cases e <;> cases b <;> cases u <;> cases i
  all_goals
    go_wp2_with fail
    try simp only [or_facts]
    refine (dt_leaf _ R5.out S5.out hne G5.out (by rw [body_length]; have := N5.out; omega) (by simp [fl, bv])).mono ?_
    rintro z w7 ⟨A7, n7, c7, rfl, hs7, hg7⟩
    have S7 := Lib.hid hs7
    have G7 := Lib.hid hg7
    clear hs7 hg7
    go_wp2
    go_ret2
    exact ⟨A7, n7, c7, rfl, S7.out, G7.out⟩
end Go.Proofs.YtnaihmmfnffejaaDoor
