/- Contract of the marshal of SACK. Conditions: the numbers fit; at most 1000 gaps and 1000 numbers that came twice. -/
import Derived.Test.YtnaihmmfnffejaaDoorFwT
namespace Go.Proofs.YtnaihmmfnffejaaDoor
open Go.RowKit Go.Lib

/-- Numbers of 32 bits as cells. -/
def u32s (l : List Int) : List Value := l.map (Value.int .u32)
theorem u32s_length (l : List Int) : (u32s l).length = l.length := by simp [u32s]
theorem u32s_get (l : List Int) (j : Nat) (z : Int) (h : l[j]? = some z) : (u32s l)[j]? = some (.int .u32 z) := by simp [u32s, h]
/-- Numbers of 32 bits as bytes. -/
def dbytes (l : List Int) : List UInt8 := l.flatMap fun z => be 4 z.toNat
theorem dbytes_length (l : List Int) : (dbytes l).length = 4 * l.length := by
  induction l with
  | nil => rfl
  | cons a l ih => simp only [dbytes, List.flatMap_cons, List.length_append, List.length_cons, be_length] at ih ⊢; omega
theorem dbytes_take (l : List Int) (j : Nat) (z : Int) (h : l[j]? = some z) : dbytes (l.take (j + 1)) = dbytes (l.take j) ++ be 4 z.toNat := by
  rw [List.take_add_one, h]; simp [dbytes]
/-- SACK's head and value. -/
def skhead (tsn win ng nd : Nat) : List UInt8 := be 4 tsn ++ (be 4 win ++ (be 2 ng ++ be 2 nd))
theorem skhead_length (tsn win ng nd : Nat) : (skhead tsn win ng nd).length = 12 := by simp [skhead, be_length]
def skbody (tsn win : Nat) (g : List (Int × Int)) (d : List Int) : List UInt8 := skhead tsn win g.length d.length ++ (sbytes g ++ dbytes d)
theorem skbody_length (tsn win : Nat) (g : List (Int × Int)) (d : List Int) : (skbody tsn win g d).length = 12 + (4 * g.length + 4 * d.length) := by simp [skbody, skhead_length, sbytes_length, dbytes_length]

theorem sk_put (m tsn win ng nd : Nat) (hm : 12 ≤ m) : put (put (put (put (List.replicate m 0) 0 (be 4 tsn)) 4 (be 4 win)) 8 (be 2 ng)) 10 (be 2 nd) = put (List.replicate m 0) 0 (skhead tsn win ng nd) := by
  have h1 := put_put (List.replicate m 0) 0 (be 4 tsn) (be 4 win) (by simp [be_length]; omega)
  have h2 := put_put (List.replicate m 0) 0 (be 4 tsn ++ be 4 win) (be 2 ng) (by simp [be_length]; omega)
  have h3 := put_put (List.replicate m 0) 0 (be 4 tsn ++ be 4 win ++ be 2 ng) (be 2 nd) (by simp [be_length]; omega)
  simp only [List.length_append, be_length, Nat.zero_add] at h1 h2 h3
  rw [h1, h2, h3]
  simp [skhead]
theorem sk_put_gap (m : Nat) (hd : List UInt8) (g : List (Int × Int)) (k : Nat) (p : Int × Int) (h : g[k]? = some p) (hh : hd.length = 12) (off : Nat) (ho : off = 12 + 4 * k) (hm : off + 4 ≤ m) :
    put (put (put (List.replicate m 0) 0 (hd ++ sbytes (g.take k))) off (be 2 p.1.toNat)) (off + 2) (be 2 p.2.toNat) = put (List.replicate m 0) 0 (hd ++ sbytes (g.take (k + 1))) := by
  have hk : k < g.length := (List.getElem?_eq_some_iff.1 h).1
  have hl : (hd ++ sbytes (g.take k)).length = off := by rw [List.length_append, hh, sbytes_length, List.length_take, Nat.min_eq_left (by omega), ho]
  have h1 := put_put (List.replicate m 0) 0 (hd ++ sbytes (g.take k)) (be 2 p.1.toNat) (by rw [hl, be_length, List.length_replicate]; omega)
  have h2 := put_put (List.replicate m 0) 0 (hd ++ sbytes (g.take k) ++ be 2 p.1.toNat) (be 2 p.2.toNat) (by rw [List.length_append, hl, be_length, be_length, List.length_replicate]; omega)
  rw [hl, Nat.zero_add] at h1
  rw [List.length_append, hl, be_length, Nat.zero_add] at h2
  rw [h1, h2, sbytes_take g k p h]
  simp only [List.append_assoc]
theorem sk_put_dup (m : Nat) (hd : List UInt8) (d : List Int) (k : Nat) (z : Int) (h : d[k]? = some z) (off : Nat) (ho : off = hd.length + 4 * k) (hm : off + 4 ≤ m) :
    put (put (List.replicate m 0) 0 (hd ++ dbytes (d.take k))) off (be 4 z.toNat) = put (List.replicate m 0) 0 (hd ++ dbytes (d.take (k + 1))) := by
  have hk : k < d.length := (List.getElem?_eq_some_iff.1 h).1
  have hl : (hd ++ dbytes (d.take k)).length = off := by rw [List.length_append, dbytes_length, List.length_take, Nat.min_eq_left (by omega), ho]
  have h1 := put_put (List.replicate m 0) 0 (hd ++ dbytes (d.take k)) (be 4 z.toNat) (by rw [hl, be_length, List.length_replicate]; omega)
  rw [hl, Nat.zero_add] at h1
  rw [h1, dbytes_take d k z h]
  simp only [List.append_assoc]
theorem put_len0 (m : Nat) (bs : List UInt8) (h : bs.length ≤ m) : (put (List.replicate m 0) 0 bs).length = m := by rw [put_length _ _ _ (by simp; omega)]; simp

set_option maxRecDepth 20000 in
set_option maxHeartbeats 1600000 in
theorem skmarshal (gc : Nat) (t : TypeId) (tsn win : Int) (A : Option Addr) (n c : Nat) (B : Option Addr) (q d : Nat) (g : List (Int × Int)) (l : List Int) (w : World)
    (hr : Row w gc t [.int .u8 0, .int .u8 0, .slice none 0 0, .int .u32 tsn, .int .u32 win, .slice A n c, .slice B q d])
    (hs : Rd w 2 n (.slice A n c) (prs .u16 g)) (hn : n = g.length) (hl : n ≤ 1000) (hs' : Rd w 1 q (.slice B q d) (u32s l)) (hq : q = l.length) (hl' : q ≤ 1000)
    (ht0 : 0 ≤ tsn) (ht : tsn ≤ 4294967295) (hw0 : 0 ≤ win) (hw : win ≤ 4294967295) (hp : ∀ p ∈ g, 0 ≤ p.1 ∧ p.1 ≤ 65535 ∧ 0 ≤ p.2 ∧ p.2 ≤ 65535) (hz : ∀ z ∈ l, 0 ≤ z ∧ z ≤ 4294967295) :
    Calls Tryd.prog 69 #[.pointer (some ⟨gc, 0, none⟩)] w (RetSlO w gc (chunk 3 0 (skbody tsn.toNat win.toNat g l))) := by
  have hgc := hr.lt
  have k3 : w.cell? ⟨gc, 3, none⟩ = some (.int .u32 tsn) := by rw [hr.cell]; rfl
  have k4 : w.cell? ⟨gc, 4, none⟩ = some (.int .u32 win) := by rw [hr.cell]; rfl
  have k5 : w.cell? ⟨gc, 5, none⟩ = some (.slice A n c) := by rw [hr.cell]; rfl
  have k6 : w.cell? ⟨gc, 6, none⟩ = some (.slice B q d) := by rw [hr.cell]; rfl
  have Hr := Lib.hid hr
  have Hn := Lib.hid hn
  have Hq := Lib.hid hq
  have HP := Lib.hid hp
  have HZ := Lib.hid hz
  obtain ⟨A', c', hv, hnc, hcm, hl0, h0, hc⟩ := hs
  injection hv with e1 e2 e3
  subst e1 e3
  have HC := Lib.hid hc
  clear hr hp hz hn hq hl0 h0 hc e2
  obtain ⟨B', d', hv, hqd, hdm, hl0, h0, hc⟩ := hs'
  injection hv with e1 e2 e3
  subst e1 e3
  have HD := Lib.hid hc
  clear hl0 h0 hc e2
  unfold maxLen at hcm hdm
  obtain ⟨m, hm⟩ : ∃ m, m = 12 + (4 * n + 4 * q) := ⟨_, rfl⟩
  obtain ⟨a1, ha1⟩ : ∃ a1, a1 = 4 * n := ⟨_, rfl⟩
  obtain ⟨a2, ha2⟩ : ∃ a2, a2 = 4 * q := ⟨_, rfl⟩
  obtain ⟨a3, ha3⟩ : ∃ a3, a3 = a1 + a2 := ⟨_, rfl⟩
  have w1 : IntKind.i64.wrap (4 * (n : Int)) = (a1 : Int) := by simp [IntKind.wrap, IntKind.bits, IntKind.signed]; omega
  have w2 : IntKind.i64.wrap (4 * (q : Int)) = (a2 : Int) := by simp [IntKind.wrap, IntKind.bits, IntKind.signed]; omega
  have w3 : IntKind.i64.wrap ((a1 : Int) + (a2 : Int)) = (a3 : Int) := by simp [IntKind.wrap, IntKind.bits, IntKind.signed]; omega
  have w4 : IntKind.i64.wrap (12 + (a3 : Int)) = (m : Int) := by simp [IntKind.wrap, IntKind.bits, IntKind.signed]; omega
  have m12 : 12 ≤ m := by omega
  have mle : m ≤ 8012 := by omega
  have Hm := Lib.hid hm
  clear hm ha1 ha2 ha3
  go_enter Tryd.func69, Tryd.ntmps69
  go_upto_region 1 with fail
  refine wp_region_tail 14 (by kernel_rfl) (by kernel_rfl) ?_
  simp only [List.take_succ_cons, List.take_zero, List.drop_succ_cons, List.drop_zero]
  repeat still_step
  refine wpStill_nil ?_
  clear w1 w2 w3 w4
  refine wpList_make_row _ rfl _ _ _ rfl bT rfl _ _ _ _ m rfl rfl (by rfl) (by rfl) (by omega) (by unfold maxLen; omega) ?_
  intro w1 hrow hb1
  have hrow' : Row w1 w.heap.size 5 (bvs (List.replicate m 0)) := by rw [bvs_zero]; exact hrow
  have hR := Hr.out.drew.below hb1 hgc
  have hb1' := below_step (below_drewN (Below.refl w.heap.size w) 1) (Nat.le_refl _) hb1
  have P0 := Lib.hid (Puts.start hrow')
  have R0 := Lib.hid hR
  have Hb1 := Lib.hid hb1'
  have k3 : w1.cell? ⟨gc, 3, none⟩ = some (.int .u32 tsn) := by rw [hR.cell]; rfl
  have hne : ¬ gc = w.heap.size := by omega
  have c0 : ¬ m = 0 := by omega
  have c4 : ¬ m = 4 := by omega
  have c8 : ¬ m = 8 := by omega
  have c10 : ¬ m = 10 := by omega
  have i4 : (4 : Int) ≤ (m : Int) := by omega
  have i8 : (8 : Int) ≤ (m : Int) := by omega
  have i10 : (10 : Int) ≤ (m : Int) := by omega
  clear hrow hrow' hR hb1 hb1' k4 k5 k6
  go_wp2_with fail
  refine wp_region_tail 7 (by kernel_rfl) (by kernel_rfl) ?_
  simp only [List.take_succ_cons, List.take_zero, List.drop_succ_cons, List.drop_zero]
  repeat still_step
  refine wpStill_nil ?_
  go_wp2_with fail
  refine (put32_any _ 0 _ _ _ _ _ w1.drew P0.out.drew.1 (by simp; omega) (by omega) ht0 ht).mono ?_
  rintro z w2 ⟨rfl, hP⟩
  have hR := R0.out.drew.grown hP.2 (by intro e; injection e with e; exact hne e)
  have hP := P0.out.drew.trans hP
  have k4 : w2.cell? ⟨gc, 4, none⟩ = some (.int .u32 win) := by rw [hR.cell]; rfl
  have P1 := Lib.hid hP
  have L1 : Hid ((put (List.replicate m 0) 0 (be 4 tsn.toNat)).length = m) := put_len0 _ _ (by rw [be_length]; omega)
  have R1 := Lib.hid hR
  clear hP hR k3
  go_wp2_with fail
  refine wp_region_tail 7 (by kernel_rfl) (by kernel_rfl) ?_
  simp only [List.take_succ_cons, List.take_zero, List.drop_succ_cons, List.drop_zero]
  repeat still_step
  refine wpStill_nil ?_
  go_wp2_with fail
  refine (put32_any _ 4 _ _ _ _ _ w2.drew P1.out.drew.1 (by have := L1.out; omega) (by omega) hw0 hw).mono ?_
  rintro z w3 ⟨rfl, hP⟩
  have hR := R1.out.drew.grown hP.2 (by intro e; injection e with e; exact hne e)
  have hP := P1.out.drew.trans hP
  have k5 : w3.cell? ⟨gc, 5, none⟩ = some (.slice A n c) := by rw [hR.cell]; rfl
  have P2 := Lib.hid hP
  have L2 : Hid ((put (put (List.replicate m 0) 0 (be 4 tsn.toNat)) 4 (be 4 win.toNat)).length = m) := by have := L1.out; show _ = m; rw [put_length _ _ _ (by rw [be_length]; omega)]; exact this
  have R2 := Lib.hid hR
  have wn : IntKind.u16.wrap (n : Int) = (n : Int) := by simp [IntKind.wrap, IntKind.bits, IntKind.signed]; omega
  clear hP hR k4
  go_wp2_with fail
  refine wp_region_tail 9 (by kernel_rfl) (by kernel_rfl) ?_
  simp only [List.take_succ_cons, List.take_zero, List.drop_succ_cons, List.drop_zero]
  repeat still_step
  refine wpStill_nil ?_
  go_wp2_with fail
  refine (put16_any _ 8 _ _ (n : Int) _ _ w3.drew P2.out.drew.1 (by have := L2.out; omega) (by omega) (by omega) (by omega)).mono ?_
  rintro z w4 ⟨rfl, hP⟩
  have hR := R2.out.drew.grown hP.2 (by intro e; injection e with e; exact hne e)
  have hP := P2.out.drew.trans hP
  have k6 : w4.cell? ⟨gc, 6, none⟩ = some (.slice B q d) := by rw [hR.cell]; rfl
  have P3 := Lib.hid hP
  have L3 : Hid ((put (put (put (List.replicate m 0) 0 (be 4 tsn.toNat)) 4 (be 4 win.toNat)) 8 (be 2 (n : Int).toNat)).length = m) := by have := L2.out; show _ = m; rw [put_length _ _ _ (by rw [be_length]; omega)]; exact this
  have R3 := Lib.hid hR
  have wq : IntKind.u16.wrap (q : Int) = (q : Int) := by simp [IntKind.wrap, IntKind.bits, IntKind.signed]; omega
  clear hP hR k5 wn
  go_wp2_with fail
  refine wp_region_tail 9 (by kernel_rfl) (by kernel_rfl) ?_
  simp only [List.take_succ_cons, List.take_zero, List.drop_succ_cons, List.drop_zero]
  repeat still_step
  refine wpStill_nil ?_
  go_wp2_with fail
  refine (put16_any _ 10 _ _ (q : Int) _ _ w4.drew P3.out.drew.1 (by have := L3.out; omega) (by omega) (by omega) (by omega)).mono ?_
  rintro z w5 ⟨rfl, hP⟩
  have hR := R3.out.drew.grown hP.2 (by intro e; injection e with e; exact hne e)
  have hP := P3.out.drew.trans hP
  rw [Int.toNat_natCast, Int.toNat_natCast, sk_put m _ _ _ _ m12] at hP
  have P4 := Lib.hid hP
  have B5 := Lib.hid (below_only Hb1.out Hb1.out.size hP.2 (Nat.le_refl _))
  have R4 := Lib.hid hR
  have k5 : w5.cell? ⟨gc, 5, none⟩ = some (.slice A n c) := by rw [hR.cell]; rfl
  clear hP hR k6 wq P0 P1 P2 P3 R0 R1 R2 R3 L1 L2 L3 c0 c4 c8 c10 i4 i8 i10
  obtain ⟨hd, hhd⟩ : ∃ hd, hd = skhead tsn.toNat win.toNat n q := ⟨_, rfl⟩
  rw [← hhd] at P4
  have hh : hd.length = 12 := by rw [hhd, skhead_length]
  have Hhd := Lib.hid hhd
  have HH := Lib.hid hh
  clear hhd hh
  go_wp2_with fail
  go_loopw [5, 66] (fun a i wr => ∃ (k off : Nat), k ≤ n ∧ off ≤ m ∧ a = .int .i64 off ∧ i = .int .i64 k ∧ Hid (off = 12 + 4 * k) ∧ Hid (Puts w1 w.heap.size 5 (put (List.replicate m 0) 0 (hd ++ sbytes (g.take k))) wr) ∧ Hid (Row wr gc t [.int .u8 0, .int .u8 0, .slice none 0 0, .int .u32 tsn, .int .u32 win, .slice A n c, .slice B q d])) (fun _ i _ => n - (intOf i).toNat)
  case atStart => exact ⟨0, 12, Nat.zero_le _, m12, rfl, rfl, Lib.hid rfl, by simpa [sbytes] using P4, R4⟩
  case round =>
    obtain ⟨k, off, hk, hoff, rfl, rfl, Ho, HPu, HRr⟩ := hrel
    have hbw : Below w.heap.size w wr := below_only Hb1.out Hb1.out.size HPu.out.2 (Nat.le_refl _)
    have Hbw := Lib.hid hbw
    have hz1 : w.heap.size < wr.heap.size := HPu.out.1.lt
    by_cases hlt : k < n
    · obtain ⟨g0, o, rfl, hg⟩ := HC.out (by omega)
      have hlk : k < g.length := by have := Hn.out; omega
      have hx : g[k]? = some g[k] := List.getElem?_eq_getElem hlk
      obtain ⟨ha, hb2, ha', hb2'⟩ := HP.out _ (List.getElem_mem hlk)
      generalize g[k] = x at hx ha hb2 ha' hb2'
      obtain ⟨x1, x2⟩ := x
      simp only at ha hb2 ha' hb2'
      obtain ⟨hc1, hc2⟩ := pr_cells hg hbw hx
      have Hx := Lib.hid hx
      have hof : off + 4 ≤ m := by have := Ho.out; have := Hm.out; omega
      clear hx hg hbw k5
      go_upto_region 10 with fail
      have hG := Row.new wr 128 #[.int .u16 x1, .int .u16 x2]
      have hPa := HPu.out.alloc (.cells #[.int .u16 x1, .int .u16 x2] 128)
      have hRa := HRr.out.alloc (.cells #[.int .u16 x1, .int .u16 x2] 128)
      have hgp : ¬ wr.heap.size = w.heap.size := by omega
      generalize wr.alloc (.cells #[.int .u16 x1, .int .u16 x2] 128) = W at hG hPa hRa ⊢
      generalize wr.heap.size = gp at hG hgp ⊢
      have y0 : W.cell? ⟨gp, 0, none⟩ = some (.int .u16 x1) := by rw [hG.cell]; rfl
      have HG := Lib.hid hG
      have HPa := Lib.hid hPa
      have HRa := Lib.hid hRa
      have i1 : (off : Int) ≤ (m : Int) := by omega
      have i2 : ¬ m = off := by omega
      have hlen : Hid ((put (List.replicate m 0) 0 (hd ++ sbytes (g.take k))).length = m) := put_len0 _ _ (by rw [List.length_append, HH.out, sbytes_length, List.length_take]; have := Ho.out; omega)
      clear hG hPa hRa hc1 hc2 hz1
      refine wp_region_tail 6 (by kernel_rfl) (by kernel_rfl) ?_
      simp only [List.take_succ_cons, List.take_zero, List.drop_succ_cons, List.drop_zero]
      repeat still_step
      refine wpStill_nil ?_
      go_wp2_with fail
      refine (put16_any _ off _ _ _ _ _ W.drew HPa.out.drew.1 (by have := hlen.out; omega) (by omega) ha hb2).mono ?_
      rintro z w6 ⟨rfl, hP⟩
      have hR := HRa.out.drew.grown hP.2 (by intro e; injection e with e; exact hne e)
      have hG := HG.out.drew.grown hP.2 (by intro e; injection e with e; exact hgp e)
      have hP := HPa.out.drew.trans hP
      have y1 : w6.cell? ⟨gp, 1, none⟩ = some (.int .u16 x2) := by rw [hG.cell]; rfl
      have HP6 := Lib.hid hP
      have HR6 := Lib.hid hR
      obtain ⟨o2, ho2⟩ : ∃ o2, o2 = off + 2 := ⟨_, rfl⟩
      have ww : IntKind.i64.wrap ((off : Int) + 2) = (o2 : Int) := by simp [IntKind.wrap, IntKind.bits, IntKind.signed]; omega
      have i3 : (o2 : Int) ≤ (m : Int) := by omega
      have i4 : ¬ m = o2 := by omega
      have i5 : o2 + 2 ≤ m := by omega
      have Ho2 := Lib.hid ho2
      have hlen2 : Hid ((put (put (List.replicate m 0) 0 (hd ++ sbytes (g.take k))) off (be 2 x1.toNat)).length = m) := by have := hlen.out; show _ = m; rw [put_length _ _ _ (by rw [be_length]; omega)]; exact this
      clear hP hR hG y0 ho2 i1 i2
      go_wp2_with fail
      refine wp_region_tail 7 (by kernel_rfl) (by kernel_rfl) ?_
      simp only [List.take_succ_cons, List.take_zero, List.drop_succ_cons, List.drop_zero]
      repeat still_step
      refine wpStill_nil ?_
      go_wp2_with fail
      refine (put16_any _ o2 _ _ _ _ _ w6.drew HP6.out.drew.1 (by have := hlen2.out; omega) (by omega) ha' hb2').mono ?_
      rintro z w7 ⟨rfl, hP⟩
      have hR := HR6.out.drew.grown hP.2 (by intro e; injection e with e; exact hne e)
      have hP := HP6.out.drew.trans hP
      rw [Ho2.out, sk_put_gap m hd g k (x1, x2) Hx.out HH.out off Ho.out hof] at hP
      have HP7 := Lib.hid hP
      have HR7 := Lib.hid hR
      have Ho' : Hid (off + 4 = 12 + 4 * (k + 1)) := by have := Ho.out; show _ = _; omega
      clear hP hR y1 ww i3 i4 i5
      go_wp2
      go_roundw
      case rel => exact ⟨k + 1, off + 4, by omega, hof, by go_num, by go_num, Ho', HP7, HR7⟩
      case measure => simp [intOf]; omega
    · obtain rfl : k = n := by omega
      obtain ⟨hd2, hhd2⟩ : ∃ hd2, hd2 = hd ++ sbytes g := ⟨_, rfl⟩
      have hPq := HPu.out
      rw [show g.take k = g by rw [Hn.out, List.take_length], ← hhd2] at hPq
      have HPq := Lib.hid hPq
      have hh2 : hd2.length = 12 + 4 * k := by rw [hhd2, List.length_append, HH.out, sbytes_length, ← Hn.out]
      have HH2 := Lib.hid hh2
      have Hhd2 := Lib.hid hhd2
      have k6 : wr.cell? ⟨gc, 6, none⟩ = some (.slice B q d) := by rw [HRr.out.cell]; rfl
      have Ho0 : Hid (off = 12 + 4 * k + 4 * 0) := by have := Ho.out; show _ = _; omega
      clear hPq hhd2 hh2 HPu k5 hbw
      go_wp2_with fail
      obtain ⟨wo, rfl⟩ : ∃ wo : World, wo = wr := ⟨_, rfl⟩
      go_loopw [5, 93] (fun a i wr => ∃ (j off : Nat), j ≤ q ∧ off ≤ m ∧ a = .int .i64 off ∧ i = .int .i64 j ∧ Hid (off = 12 + 4 * k + 4 * j) ∧ Hid (Puts w1 w.heap.size 5 (put (List.replicate m 0) 0 (hd2 ++ dbytes (l.take j))) wr) ∧ Hid (Row wr gc t [.int .u8 0, .int .u8 0, .slice none 0 0, .int .u32 tsn, .int .u32 win, .slice A k c, .slice B q d])) (fun _ i _ => q - (intOf i).toNat)
      case atStart => exact ⟨0, off, Nat.zero_le _, hoff, rfl, rfl, Ho0, by simpa [dbytes] using HPq, HRr⟩
      case round =>
        clear k6 Ho Ho0 HPq Hbw hz1 hoff HRr
        obtain ⟨j, off, hj, hoff, rfl, rfl, Ho, HPu, HRr⟩ := hrel
        have hbw : Below w.heap.size w wr := below_only Hb1.out Hb1.out.size HPu.out.2 (Nat.le_refl _)
        have Hbw := Lib.hid hbw
        by_cases hltq : j < q
        · obtain ⟨g0, o, rfl, hg⟩ := HD.out (by omega)
          have hlk : j < l.length := by have := Hq.out; omega
          have hx : l[j]? = some l[j] := List.getElem?_eq_getElem hlk
          obtain ⟨ha, hb2⟩ := HZ.out _ (List.getElem_mem hlk)
          generalize l[j] = x at hx ha hb2
          have hc1 : wr.cell? ⟨g0, o + j, none⟩ = some (.int .u32 x) := by
            have h1 := hg j _ (u32s_get l j x hx)
            exact (hbw.cell (World.block_lt_of_cell? w _ h1)).trans h1
          have Hx := Lib.hid hx
          have hof : off + 4 ≤ m := by have := Ho.out; have := Hm.out; omega
          have i1 : (off : Int) ≤ (m : Int) := by omega
          have i2 : ¬ m = off := by omega
          have hlen : Hid ((put (List.replicate m 0) 0 (hd2 ++ dbytes (l.take j))).length = m) := put_len0 _ _ (by rw [List.length_append, HH2.out, dbytes_length, List.length_take]; have := Ho.out; omega)
          clear hx hg hbw
          go_upto_region 17 with fail
          refine wp_region_tail 5 (by kernel_rfl) (by kernel_rfl) ?_
          simp only [List.take_succ_cons, List.take_zero, List.drop_succ_cons, List.drop_zero]
          repeat still_step
          refine wpStill_nil ?_
          go_wp2_with fail
          refine (put32_any _ off _ _ _ _ _ wr.drew HPu.out.drew.1 (by have := hlen.out; omega) (by omega) ha hb2).mono ?_
          rintro z w6 ⟨rfl, hP⟩
          have hR := HRr.out.drew.grown hP.2 (by intro e; injection e with e; exact hne e)
          have hP := HPu.out.drew.trans hP
          rw [sk_put_dup m hd2 l j x Hx.out off (by rw [HH2.out]; exact Ho.out) hof] at hP
          have HP7 := Lib.hid hP
          have HR7 := Lib.hid hR
          have Ho' : Hid (off + 4 = 12 + 4 * k + 4 * (j + 1)) := by have := Ho.out; show _ = _; omega
          clear hP hR hc1 i1 i2
          go_wp2
          go_roundw
          case rel => exact ⟨j + 1, off + 4, by omega, hof, by go_num, by go_num, Ho', HP7, HR7⟩
          case measure => simp [intOf]; omega
        · obtain rfl : j = q := by omega
          have hPq := HPu.out.1
          rw [show l.take j = l by rw [Hq.out, List.take_length], put_whole _ _ (by rw [List.length_append, HH2.out, dbytes_length, List.length_replicate]; have := Hm.out; have := Hq.out; omega)] at hPq
          have hS := hPq.sl (n := m) (c := m) (by rw [List.length_append, HH2.out, dbytes_length]; have := Hm.out; have := Hq.out; omega) (Nat.le_refl _) (by unfold maxLen; omega)
          have HS := Lib.hid hS
          have y0 : wr.cell? ⟨gc, 0, none⟩ = some (.int .u8 0) := by rw [HRr.out.cell]; rfl
          have y2 : wr.cell? ⟨gc, 2, none⟩ = some (.slice none 0 0) := by rw [HRr.out.cell]; rfl
          have f0 := HRr.out.frozen 0
          have f2 := HRr.out.frozen 2
          clear hPq hS hbw
          go_wp2_with fail
          have hW : Row ((wr.setCell ⟨gc, 0, none⟩ (.int .u8 3)).setCell ⟨gc, 2, none⟩ (.slice (some ⟨w.heap.size, 0, none⟩) m m)) gc t [.int .u8 3, .int .u8 0, .slice (some ⟨w.heap.size, 0, none⟩) m m, .int .u32 tsn, .int .u32 win, .slice A k c, .slice B j d] := (HRr.out.set 0 _).set 2 _
          have hg := only_set (only_set (only_refl wr (some gc)) 0 (.int .u8 3)) 2 (.slice (some ⟨w.heap.size, 0, none⟩) m m)
          refine (hmarshal_any gc t 3 0 _ [_, _, _, _] _ _ hW (HS.out.only hg (fun A n c e => by cases e; exact fun h => hne h.symm)) (by rw [List.length_append, HH2.out, dbytes_length]; have := Hq.out; omega)).mono ?_
          rintro e w7 ⟨A7, n7, c7, rfl, hs7, hb7⟩
          have Hs7 := Lib.hid hs7
          have Hg7 := Lib.hid (only_trans (grown_of_below Hbw.out (some gc)) (only_below hg hb7))
          have hE : Hid (hd2 ++ dbytes l = skbody tsn.toNat win.toNat g l) := by
            show _ = _
            rw [Hhd2.out, Hhd.out, Hn.out, Hq.out]
            simp [skbody]
          clear hs7 hb7 hW hg y0 y2 f0 f2
          go_wp2
          go_ret2
          exact ⟨A7, n7, c7, rfl, by rw [chunk_rev, ← hE.out]; exact Hs7.out, Hg7.out⟩
end Go.Proofs.YtnaihmmfnffejaaDoor
