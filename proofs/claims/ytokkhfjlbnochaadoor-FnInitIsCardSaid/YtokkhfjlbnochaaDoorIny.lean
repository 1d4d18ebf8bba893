/- The walk of FnInitIs. Conditions: the numbers of 32 bits fit. -/
import Derived.Test.YtokkhfjlbnochaaDoorInl
namespace Go.Proofs.YtokkhfjlbnochaaDoor
open Go.RowKit Go.Lib

theorem igood {tag win out inn tsn : Nat} {ps : List Pm} (h : OkI tag win (out : Int) (inn : Int) ps) (h1 : tag ≤ 4294967295) (h2 : win ≤ 4294967295) (h3 : tsn ≤ 4294967295) : IGood tag win out inn tsn ps := by
  obtain ⟨_, _, _, o2, _, i2, few, last, okq⟩ := h
  have hlen : (kflat (ps.map Pm.c)).length ≤ 60000 := by
    have e1 := (kpre_le (ps.map Pm.c) (ps.map Pm.c).length (Nat.le_refl _)).1
    have e2 := klen_le (ps.map Pm.c) 1024 (fun d hd => by
      obtain ⟨p, hp, rfl⟩ := List.mem_map.1 hd
      exact (okq p hp).2) (ps.map Pm.c).length
    unfold kflat
    rw [List.length_map] at e1 e2 ⊢
    omega
  refine ⟨⟨h1, h2, by omega, by omega, h3⟩, fun p hp => ?_, fun p hp => ?_, few, hlen, fun d hd => ?_⟩
  · obtain ⟨h | ⟨h, h0⟩, hl⟩ := okq p hp
    · exact ⟨7, h, .inl rfl, by omega⟩
    · exact ⟨49152, h, .inr ⟨rfl, List.eq_nil_of_length_eq_zero h0⟩, by omega⟩
  · obtain ⟨h | ⟨h, _⟩, hl⟩ := okq p hp
    · exact ⟨by omega, by omega, by omega⟩
    · exact ⟨by omega, by omega, by omega⟩
  · rw [List.length_map, List.getElem?_map] at hd
    simp only [Option.map_eq_some_iff] at hd
    obtain ⟨p, hp, rfl⟩ := hd
    exact last p hp

theorem same_eq (v1 v2 : Value) (l : List UInt8) (w : World) (h1 : Sl w v1 l) (h2 : Sl w v2 l) :
    Calls Tryd.prog 9 #[v1, v2] w fun e w' => e = .returned (.bool true) ∧ w' = w := by
  refine (same_any v1 v2 l l w h1 h2).mono ?_
  rintro e w' ⟨rfl, rfl⟩
  exact ⟨by rw [decide_eq_true rfl], rfl⟩

set_option maxRecDepth 20000 in
set_option maxHeartbeats 3200000 in
theorem fnInitIs_walk (ack : Bool) (tag win : Nat) (out inn : Int) (tsn : Nat) (A : Option Addr) (n c : Nat) (ps : List Pm) (w : World) (h : Rd w 2 n (.slice A n c) (pms .i64 ps)) (hn : n = ps.length) (ha : PAll ps w) (h1 : tag ≤ 4294967295) (h2 : win ≤ 4294967295) (h3 : tsn ≤ 4294967295) :
    Calls Tryd.prog 3 #[.agg #[.bool ack, .int .u32 (tag : Int), .int .u32 (win : Int), .int .i64 out, .int .i64 inn, .int .u32 (tsn : Int), .slice A n c]] w fun z w' => z = .returned (.bool true) ∧ Below w.heap.size w w' := by
  have H := Lib.hid h
  have Hn := Lib.hid hn
  have HA := Lib.hid ha
  have H1 := Lib.hid h1
  have H2 := Lib.hid h2
  have H3 := Lib.hid h3
  have hG := Row.new w 25 #[.bool ack, .int .u32 (tag : Int), .int .u32 (win : Int), .int .i64 out, .int .i64 inn, .int .u32 (tsn : Int), .slice A n c]
  have hB := (Below.refl w.heap.size w).alloc (Nat.le_refl _) (.cells #[.bool ack, .int .u32 (tag : Int), .int .u32 (win : Int), .int .i64 out, .int .i64 inn, .int .u32 (tsn : Int), .slice A n c] 25)
  have HG := Lib.hid hG
  have HB := Lib.hid hB
  clear h hn ha h1 h2 h3 hG hB
  go_enter Tryd.func3, Tryd.ntmps3
  go_wp2_with fail
  refine (fits5_any ack tag win out inn tsn A n c ps _ (H.out.below HB.out) Hn.out (HA.out.below HB.out)).mono ?_
  rintro e w1 ⟨b, rfl, _, hb1⟩
  have HG1 := Lib.hid (HG.out.below hb1 HG.out.lt)
  have HB1 := Lib.hid (below_step HB.out HB.out.size hb1)
  clear hb1 HG HB
  cases b with
  | false =>
    go_wp2
    go_ret
    exact ⟨rfl, HB1.out⟩
  | true =>
  obtain ⟨a0, a1, a2, a3, a4, a5, a6⟩ := Row.seven HG1.out
  go_wp2_with fail
  refine (isInit_any ack tag win out inn tsn A n c ps _ (H.out.below HB1.out) Hn.out (HA.out.below HB1.out)).mono ?_
  rintro e w2 ⟨b, rfl, hbt, hb2⟩
  have HG2 := Lib.hid (HG1.out.below hb2 HG1.out.lt)
  have HB2 := Lib.hid (below_step HB1.out HB1.out.size hb2)
  clear hb2 HG1 HB1 a0 a1 a2 a3 a4 a5 a6
  cases b with
  | false =>
    clear hbt
    go_wp2
    go_ret
    exact ⟨rfl, HB2.out⟩
  | true =>
  have hq := hbt rfl
  obtain ⟨out, rfl⟩ := Int.eq_ofNat_of_zero_le (show 0 ≤ out by have := hq.2.2.1; omega)
  obtain ⟨inn, rfl⟩ := Int.eq_ofNat_of_zero_le (show 0 ≤ inn by have := hq.2.2.2.2.1; omega)
  have Hq := Lib.hid (igood hq H1.out H2.out H3.out)
  obtain ⟨ty0, hty0⟩ : ∃ ty0 : Nat, ty0 = if ack then 2 else 1 := ⟨_, rfl⟩
  have Ht := Lib.hid hty0
  have hl20 : n ≤ 20 := by have := Hn.out; have := Hq.out.few; omega
  obtain ⟨a0, a1, a2, a3, a4, a5, a6⟩ := Row.seven HG2.out
  clear hbt hq hty0
  go_wp2_with fail
  refine (inittext_any ack tag win out inn tsn A n c ps _ (H.out.below HB2.out) Hn.out (HA.out.below HB2.out) Hq.out ty0 Ht.out).mono ?_
  rintro e w3 ⟨A3, n3, c3, rfl, hs3, hb3⟩
  have HG3 := Lib.hid (HG2.out.below hb3 HG2.out.lt)
  have HB3 := Lib.hid (below_step HB2.out HB2.out.size hb3)
  have HS3 := Lib.hid hs3
  clear hs3 hb3 HG2 HB2 a0 a1 a2 a3 a4 a5 a6
  obtain ⟨a0, a1, a2, a3, a4, a5, a6⟩ := Row.seven HG3.out
  go_wp2_with fail
  refine (specinit_any ack tag win out inn tsn A n c ps _ (H.out.below HB3.out) Hn.out (HA.out.below HB3.out) Hq.out ty0 Ht.out).mono ?_
  rintro e w4 ⟨A4, n4, c4, rfl, hs4, hb4⟩
  have HG4 := Lib.hid (HG3.out.below hb4 HG3.out.lt)
  have HB4 := Lib.hid (below_step HB3.out HB3.out.size hb4)
  have HS4 := Lib.hid (HS3.out.below hb4)
  have HT4 := Lib.hid hs4
  clear hs4 hb4 HG3 HB3 HS3 a0 a1 a2 a3 a4 a5 a6
  go_wp2_with fail
  refine (initof_any ack ty0 Ht.out _ tag win out inn tsn (ps.map Pm.c) _ HT4.out Hq.out.ok (by have := Hn.out; simp; omega) Hq.out.len (fun d hd => by obtain ⟨p, hp, rfl⟩ := List.mem_map.1 hd; exact Hq.out.kinds p hp) Hq.out.last).mono ?_
  rintro e w5 ⟨A5, c5, qs, rfl, hcon, hql, hrd, hall, hb5⟩
  rw [List.length_map, ← Hn.out] at hql hrd ⊢
  have HG5 := Lib.hid (HG4.out.below hb5 HG4.out.lt)
  have HB5 := Lib.hid (below_step HB4.out HB4.out.size hb5)
  have HS5 := Lib.hid (HS4.out.below hb5)
  have Hcon := Lib.hid hcon
  have Hql := Lib.hid hql
  have Hall := Lib.hid hall
  have Hrd := Lib.hid hrd
  clear hcon hql hall hrd hb5 HG4 HB4 HS4 HT4
  go_upto_region 7 with fail
  have hK := Row.new w5 25 #[.bool ack, .int .u32 (tag : Int), .int .u32 (win : Int), .int .i64 (out : Int), .int .i64 (inn : Int), .int .u32 (tsn : Int), .slice A5 n c5]
  have hg6 := HG5.out.alloc (.cells #[.bool ack, .int .u32 (tag : Int), .int .u32 (win : Int), .int .i64 (out : Int), .int .i64 (inn : Int), .int .u32 (tsn : Int), .slice A5 n c5] 25)
  have hb6 := HB5.out.alloc HB5.out.size (.cells #[.bool ack, .int .u32 (tag : Int), .int .u32 (win : Int), .int .i64 (out : Int), .int .i64 (inn : Int), .int .u32 (tsn : Int), .slice A5 n c5] 25)
  have hs6 := HS5.out.alloc (.cells #[.bool ack, .int .u32 (tag : Int), .int .u32 (win : Int), .int .i64 (out : Int), .int .i64 (inn : Int), .int .u32 (tsn : Int), .slice A5 n c5] 25)
  have hr6 := Hrd.out.alloc (.cells #[.bool ack, .int .u32 (tag : Int), .int .u32 (win : Int), .int .i64 (out : Int), .int .i64 (inn : Int), .int .u32 (tsn : Int), .slice A5 n c5] 25)
  have hq6 := Hall.out.alloc (.cells #[.bool ack, .int .u32 (tag : Int), .int .u32 (win : Int), .int .i64 (out : Int), .int .i64 (inn : Int), .int .u32 (tsn : Int), .slice A5 n c5] 25)
  generalize w5.alloc (.cells #[.bool ack, .int .u32 (tag : Int), .int .u32 (win : Int), .int .i64 (out : Int), .int .i64 (inn : Int), .int .u32 (tsn : Int), .slice A5 n c5] 25) = W6 at hK hg6 hb6 hs6 hr6 hq6 ⊢
  generalize w5.heap.size = K at hK ⊢
  have HK6 := Lib.hid hK
  have HG6 := Lib.hid hg6
  have HB6 := Lib.hid hb6
  have HS6 := Lib.hid hs6
  have Hr6 := Lib.hid hr6
  have Hq6 := Lib.hid hq6
  obtain ⟨a0, a1, a2, a3, a4, a5, a6⟩ := Row.seven hg6
  clear hK hg6 hb6 hs6 hr6 hq6 HG5 HB5 HS5 Hall Hrd
  go_wp2_with fail
  refine (specinit_any ack tag win out inn tsn A n c ps _ (H.out.below HB6.out) Hn.out (HA.out.below HB6.out) Hq.out ty0 Ht.out).mono ?_
  rintro e w7 ⟨A7, n7, c7, rfl, hs7, hb7⟩
  have HG7 := Lib.hid (HG6.out.below hb7 HG6.out.lt)
  have HK7 := Lib.hid (HK6.out.below hb7 HK6.out.lt)
  have HB7 := Lib.hid (below_step HB6.out HB6.out.size hb7)
  have HS7 := Lib.hid (HS6.out.below hb7)
  have Hr7 := Lib.hid (Hr6.out.below hb7)
  have Hq7 := Lib.hid (Hq6.out.below hb7)
  have HT7 := Lib.hid hs7
  clear hs7 hb7 HG6 HK6 HB6 HS6 Hr6 Hq6 a0 a1 a2 a3 a4 a5 a6
  go_wp2_with fail
  refine (same_eq _ _ _ _ HS7.out HT7.out).mono ?_
  rintro e w' ⟨rfl, rfl⟩
  obtain ⟨a0, a1, a2, a3, a4, a5, a6⟩ := Row.seven HG7.out
  obtain ⟨k0, k1, k2, k3, k4, k5, k6⟩ := Row.seven HK7.out
  obtain ⟨A', c', hv, hnc, hcm, hl0, h0, hc⟩ := H.out
  injection hv with e1 e2 e3
  subst e1 e3
  have HC := Lib.hid hc
  obtain ⟨A', c', hv, hnc5, hcm5, hl05, h05, hc5⟩ := Hr7.out
  injection hv with e1 e2 e3
  subst e1 e3
  have HC5 := Lib.hid hc5
  unfold maxLen at hcm hcm5
  clear hl0 h0 hc e2 hl05 h05 hc5
  go_wp2_with fail
  go_loopw [51] (fun i wr => ∃ j : Nat, j ≤ n ∧ i = .int .i64 j ∧ Hid (Below w'.heap.size w' wr)) (fun i _ => n - (intOf i).toNat)
  case atStart => exact ⟨0, Nat.zero_le _, rfl, Lib.hid (Below.refl _ _)⟩
  case round =>
    clear a0 a1 a2 a3 a4 a5 a6 k0 k1 k2 k3 k4 k5 k6
    obtain ⟨j, hj, rfl, Hj⟩ := hrel
    have hjs := Hj.out.size
    have hG := HG7.out.below Hj.out HG7.out.lt
    have hK := HK7.out.below Hj.out HK7.out.lt
    by_cases hlt : j < n
    · obtain ⟨g, o, rfl, hg⟩ := HC.out (by omega)
      obtain ⟨g3, o3, rfl, hg3⟩ := HC5.out (by omega)
      have hlk : j < ps.length := by have := Hn.out; omega
      have hlq : j < qs.length := by have := Hql.out; omega
      have hx : ps[j]? = some ps[j] := List.getElem?_eq_getElem hlk
      have hy : qs[j]? = some qs[j] := List.getElem?_eq_getElem hlq
      have hs := HA.out _ (List.getElem_mem hlk)
      have ht := Hq7.out _ (List.getElem_mem hlq)
      generalize ps[j] = x at hx hs
      generalize qs[j] = y at hy ht
      have exy : x.c = y.c := by
        have h1 : (ps.map Pm.c)[j]? = some x.c := by simp [hx]
        have h2 : (qs.map Pm.c)[j]? = some y.c := by simp [hy]
        rw [← Hcon.out, h2] at h1
        exact (Option.some.inj h1).symm
      obtain ⟨tx, sx, lx⟩ := x
      obtain ⟨ty, sy, ly⟩ := y
      obtain ⟨rfl, rfl⟩ := Prod.mk.inj exy
      have hbr := below_step HB7.out HB7.out.size Hj.out
      obtain ⟨hd1, hd2⟩ := pm_cells hg3 Hj.out hy
      simp only at hs ht hd1 hd2
      have hs' := hs
      have ht' := ht
      obtain ⟨As, cs, rfl, _⟩ := hs'
      obtain ⟨At, ct, rfl, _⟩ := ht'
      have hb5 := Hj.out.alloc hjs (.cells #[.int .i64 tx, .slice At lx.length ct] 35)
      have hb6 := hbr.alloc hbr.size (.cells #[.int .i64 tx, .slice At lx.length ct] 35)
      have HS := Lib.hid ((hs.below hbr).alloc (.cells #[.int .i64 tx, .slice At lx.length ct] 35))
      have HT := Lib.hid ((ht.below Hj.out).alloc (.cells #[.int .i64 tx, .slice At lx.length ct] 35))
      obtain ⟨hc3, hc4⟩ := pm_cells hg hb6 hx
      have hG6 := hG.alloc (.cells #[.int .i64 tx, .slice At lx.length ct] 35)
      have hN := Row.new wr 35 #[.int .i64 tx, .slice At lx.length ct]
      simp only at hc3 hc4
      have HB5 := Lib.hid hb5
      clear hx hy hb5 hb6 hg hg3 hs ht exy hbr hK hG
      generalize lx.length = nx at hd2 HS HT HB5 hc3 hc4 hG6 hN
      go_upto_region 12 with fail
      generalize wr.alloc (.cells #[.int .i64 tx, .slice At nx ct] 35) = W at HS HT HB5 hc3 hc4 hG6 hN ⊢
      generalize wr.heap.size = gp at hN ⊢
      obtain ⟨hN1, hN2⟩ := Row.two hN
      have e6 : W.cell? ⟨w.heap.size, 6, none⟩ = some (.slice (some ⟨g, o, none⟩) n c) := by rw [hG6.cell]; rfl
      clear hd1 hd2 hG6 hN
      go_quiet ((go_at_call 9; exact Calls.quiet_of_same (same_eq _ _ _ _ HT.out HS.out)))
      go_wp2
      go_roundw
      case rel => exact ⟨j + 1, by omega, by go_num, Lib.hid (below_drewN HB5.out _)⟩
      case measure => simp [intOf]; omega
    · obtain rfl : j = n := by omega
      obtain ⟨a0, a1, a2, a3, a4, a5, a6⟩ := Row.seven hG
      obtain ⟨k0, k1, k2, k3, k4, k5, k6⟩ := Row.seven hK
      clear hG hK
      go_wp2
      go_ret
      exact ⟨ret_true (by simp), below_step HB7.out HB7.out.size Hj.out⟩
end Go.Proofs.YtokkhfjlbnochaaDoor
