/- The walk of FnAbortBack. No condition. -/
import Derived.Test.YtjbegflgbkgjpaaDoorAbw
namespace Go.Proofs.YtjbegflgbkgjpaaDoor
open Go.RowKit Go.Lib

def OkPm (p : Pm) : Prop := (p.ty = 12 ∨ p.ty = 13) ∧ p.l.length ≤ 100

set_option maxRecDepth 20000 in
theorem fnAbortBack_big (A : Option Addr) (n c : Nat) (ps : List Pm) (w : World) (h : Rd w 2 n (.slice A n c) (pms .i64 ps)) (hn : n = ps.length) (ha : PAll ps w) (hb : 10 < n) :
    Calls Tryd.prog 3 #[.slice A n c] w fun z w' => z = .returned (.bool true) ∧ Below w.heap.size w w' := by
  have H := Lib.hid h
  have Hn := Lib.hid hn
  have HA := Lib.hid ha
  have h1 : (n : Int) > 10 := by omega
  clear h hn ha
  go_enter Tryd.func3, Tryd.ntmps3
  go_wp2_with fail
  refine (fits6_any A n c ps _ H.out Hn.out HA.out).mono ?_
  rintro e w1 ⟨b, rfl, _, hb1⟩
  have B1 := Lib.hid hb1
  clear hb1
  cases b
  all_goals
    go_wp2
    go_ret
    exact ⟨rfl, B1.out⟩

set_option maxRecDepth 20000 in
set_option maxHeartbeats 800000 in
theorem fnAbortBack_not (A : Option Addr) (n c : Nat) (ps : List Pm) (w : World) (h : Rd w 2 n (.slice A n c) (pms .i64 ps)) (hn : n = ps.length) (ha : PAll ps w) (hb : n ≤ 10) (hbad : ∃ p ∈ ps, ¬ OkPm p) :
    Calls Tryd.prog 3 #[.slice A n c] w fun z w' => z = .returned (.bool true) ∧ Below w.heap.size w w' := by
  have HB : Hid (∃ (j : Nat) (p : Pm), 0 ≤ j ∧ ps[j]? = some p ∧ ¬ OkPm p) := by
    obtain ⟨p, hp, hq⟩ := hbad
    obtain ⟨j, hj⟩ := List.mem_iff_getElem?.1 hp
    exact Lib.hid ⟨j, p, Nat.zero_le _, hj, hq⟩
  have H := Lib.hid h
  have Hn := Lib.hid hn
  have HA := Lib.hid ha
  have h1 : ¬ (n : Int) > 10 := by omega
  obtain ⟨A', c', hv, hnc, hcm, hl0, h0, hc⟩ := h
  injection hv with e1 e2 e3
  subst e1 e3
  have HC := Lib.hid hc
  unfold maxLen at hcm
  clear hn ha hbad hl0 h0 hc e2
  go_enter Tryd.func3, Tryd.ntmps3
  go_wp2_with fail
  refine (fits6_any A n c ps _ H.out Hn.out HA.out).mono ?_
  rintro e w1 ⟨b, rfl, _, hb1⟩
  have B1 := Lib.hid hb1
  clear hb1
  cases b with
  | false =>
    go_wp2
    go_ret
    exact ⟨rfl, B1.out⟩
  | true =>
    go_wp2_with fail
    go_loopw [19] (fun i wr => ∃ k : Nat, k ≤ n ∧ i = .int .i64 k ∧ Hid (∃ (j : Nat) (p : Pm), k ≤ j ∧ ps[j]? = some p ∧ ¬ OkPm p) ∧ Below w.heap.size w wr) (fun i _ => n - (intOf i).toNat)
    case atStart => exact ⟨0, Nat.zero_le _, rfl, HB, B1.out⟩
    case round =>
      obtain ⟨k, hk, rfl, HB', hb'⟩ := hrel
      have hbs := hb'.size
      have Hb := Lib.hid hb'
      have hlt : k < n := by
        obtain ⟨j, p, hj, hp, _⟩ := HB'.out
        have := (List.getElem?_eq_some_iff.1 hp).1
        have := Hn.out
        omega
      obtain ⟨g, o, rfl, hg⟩ := HC.out (by omega)
      have hlk : k < ps.length := by have := Hn.out; omega
      have hx : ps[k]? = some ps[k] := List.getElem?_eq_getElem hlk
      have hs := HA.out _ (List.getElem_mem hlk)
      generalize ps[k] = x at hx hs
      obtain ⟨hc1, hc2⟩ := pm_cells hg hb' hx
      have HB2 : OkPm x → Hid (∃ (j : Nat) (p : Pm), k + 1 ≤ j ∧ ps[j]? = some p ∧ ¬ OkPm p) := by
        intro hok
        obtain ⟨j, p, hj, hp, hq⟩ := HB'.out
        refine ⟨j, p, ?_, hp, hq⟩
        rcases Nat.lt_or_ge k j with h | h
        · omega
        · obtain rfl : j = k := by omega
          rw [hx] at hp
          injection hp with hp
          subst hp
          exact absurd hok hq
      obtain ⟨tx, sx, lx⟩ := x
      obtain ⟨As, cs, hsx, _⟩ := hs
      simp only at hsx hc1 hc2
      subst hsx
      unfold OkPm at HB2
      simp only at HB2
      obtain ⟨nx, hnx⟩ : ∃ nx, nx = lx.length := ⟨_, rfl⟩
      rw [← hnx] at hc2 HB2
      have HBB := Lib.hid HB2
      clear hx hg hb' HB' HB hnx HB2
      by_cases h12 : tx = 12
      · subst h12
        by_cases hl : (nx : Int) > 100
        · go_wp2
          go_ret
          exact ⟨rfl, Hb.out.alloc hbs _⟩
        · go_wp2
          go_roundw
          case rel => exact ⟨k + 1, by omega, by go_num, HBB.out ⟨.inl rfl, by omega⟩, Hb.out.alloc hbs _⟩
          case measure => simp [intOf]; omega
      · by_cases h13 : tx = 13
        · subst h13
          by_cases hl : (nx : Int) > 100
          · go_wp2
            go_ret
            exact ⟨rfl, Hb.out.alloc hbs _⟩
          · go_wp2
            go_roundw
            case rel => exact ⟨k + 1, by omega, by go_num, HBB.out ⟨.inr rfl, by omega⟩, Hb.out.alloc hbs _⟩
            case measure => simp [intOf]; omega
        · go_wp2
          go_ret
          exact ⟨rfl, Hb.out.alloc hbs _⟩

set_option maxRecDepth 20000 in
set_option maxHeartbeats 1600000 in
theorem fnAbortBack_in (A : Option Addr) (n c : Nat) (ps : List Pm) (w : World) (h : Rd w 2 n (.slice A n c) (pms .i64 ps)) (hn : n = ps.length) (ha : PAll ps w) (hb : n ≤ 10) (hok : ∀ p ∈ ps, OkPm p) :
    Calls Tryd.prog 3 #[.slice A n c] w fun z w' => z = .returned (.bool true) ∧ Below w.heap.size w w' := by
  have hle := pflat_le ps 100 (fun p hp => (hok p hp).2)
  have Hle : Hid ((pflat (ps.map Pm.c)).length ≤ 1040) := Lib.hid (by omega)
  have H := Lib.hid h
  have Hn := Lib.hid hn
  have HA := Lib.hid ha
  have HO := Lib.hid hok
  have h1 : ¬ (n : Int) > 10 := by omega
  obtain ⟨A', c', hv, hnc, hcm, hl0, h0, hc⟩ := h
  injection hv with e1 e2 e3
  subst e1 e3
  have HC := Lib.hid hc
  unfold maxLen at hcm
  clear hn ha hok hl0 h0 hc e2 hle
  go_enter Tryd.func3, Tryd.ntmps3
  go_wp2_with fail
  refine (fits6_any A n c ps _ H.out Hn.out HA.out).mono ?_
  rintro e w1 ⟨b, rfl, hbt, hb1⟩
  obtain rfl := hbt ⟨by omega, fun p hp => by have := (HO.out p hp).2; omega⟩
  have B1 := Lib.hid hb1
  clear hb1 hbt
  go_wp2_with fail
  go_loopw [19] (fun i wr => ∃ k : Nat, k ≤ n ∧ i = .int .i64 k ∧ Hid (Below w.heap.size w wr)) (fun i _ => n - (intOf i).toNat)
  case atStart => exact ⟨0, Nat.zero_le _, rfl, B1⟩
  case round =>
    obtain ⟨k, hk, rfl, Hb⟩ := hrel
    have hbs := Hb.out.size
    by_cases hlt : k < n
    · obtain ⟨g, o, rfl, hg⟩ := HC.out (by omega)
      have hlk : k < ps.length := by have := Hn.out; omega
      have hx : ps[k]? = some ps[k] := List.getElem?_eq_getElem hlk
      have hs := HA.out _ (List.getElem_mem hlk)
      obtain ⟨h12, hlx⟩ := HO.out _ (List.getElem_mem hlk)
      generalize ps[k] = x at hx hs h12 hlx
      obtain ⟨hc1, hc2⟩ := pm_cells hg Hb.out hx
      obtain ⟨tx, sx, lx⟩ := x
      obtain ⟨As, cs, hsx, _⟩ := hs
      simp only at hsx hc1 hc2 h12 hlx
      subst hsx
      generalize lx.length = nx at hc2 hlx
      have hlx' : ¬ (nx : Int) > 100 := by omega
      clear hx hg
      rcases h12 with rfl | rfl
      all_goals
        go_wp2
        go_roundw
        case rel => exact ⟨k + 1, by omega, by go_num, Lib.hid (Hb.out.alloc hbs _)⟩
        case measure => simp [intOf]; omega
    · obtain rfl : k = n := by omega
      go_wp2_with fail
      refine (abtext_any A k c ps _ (H.out.below Hb.out) Hn.out (HA.out.below Hb.out) HO.out (by omega)).mono ?_
      rintro e w2 ⟨A2, n2, c2, rfl, hs2, hb2⟩
      have Hs2 := Lib.hid hs2
      have B2 := Lib.hid (below_step Hb.out hbs hb2)
      clear hs2 hb2
      go_wp2_with fail
      refine (abof_any A2 n2 c2 _ _ Hs2.out (by have := Hn.out; simp; omega) (by have := Hle.out; omega) (fun d hd => by
        obtain ⟨p, hp, rfl⟩ := List.mem_map.1 hd
        obtain ⟨h2, h3⟩ := HO.out p hp
        simp only [Pm.c]
        exact ⟨h2, by omega⟩)).mono ?_
      rintro e w3 ⟨A3, c3, qs, rfl, hcon, hql, hrd, hall, hb3⟩
      simp only [List.length_map] at hql hrd ⊢
      rw [← Hn.out] at hql hrd ⊢
      have hb0 : w3.cell? = w3.cell? := rfl
      have B3 := Lib.hid (below_step B2.out B2.out.size hb3)
      have hS3 := Hs2.out.below hb3
      have hn2 := hS3.len
      rw [chunk_length] at hn2
      obtain ⟨A', c', hv, hnc2, hcm2, hl0, h0, hc⟩ := hS3
      injection hv with e1 e2 e3
      subst e1 e3
      obtain ⟨g2, o2, rfl, hg2⟩ := hc (by rw [chunk_length]; omega)
      have y0 : w3.cell? ⟨g2, o2, none⟩ = some (.int .u8 6) := hg2 0 _ rfl
      have i2 : (0 : Int) < (n2 : Int) := by omega
      have i4 : ¬ (n2 : Int) < 4 := by omega
      have Hcon := Lib.hid hcon
      have Hql := Lib.hid hql
      have Hall := Lib.hid hall
      obtain ⟨A', c', hv, hnc3, hcm3, hl0, h0, hc3⟩ := hrd
      injection hv with e1 e2 e3
      subst e1 e3
      have HC3 := Lib.hid hc3
      unfold maxLen at hcm2 hcm3
      clear hcon hql hall hb3 hc hl0 h0 hg2 hc3 hb0 hn2 hnc2 e2
      go_wp2_with fail
      go_loopw [74] (fun i wr => ∃ j : Nat, j ≤ k ∧ i = .int .i64 j ∧ Hid (Below w3.heap.size w3 wr)) (fun i _ => k - (intOf i).toNat)
      case atStart => exact ⟨0, Nat.zero_le _, rfl, Lib.hid (Below.refl _ _)⟩
      case round =>
        obtain ⟨j, hj, rfl, Hj⟩ := hrel
        have hjs := Hj.out.size
        by_cases hlt : j < k
        · obtain ⟨g, o, rfl, hg⟩ := HC.out (by omega)
          obtain ⟨g3, o3, rfl, hg3⟩ := HC3.out (by omega)
          have hlk : j < ps.length := by have := Hn.out; omega
          have hlq : j < qs.length := by have := Hql.out; omega
          have hx : ps[j]? = some ps[j] := List.getElem?_eq_getElem hlk
          have hy : qs[j]? = some qs[j] := List.getElem?_eq_getElem hlq
          have hs := HA.out _ (List.getElem_mem hlk)
          have ht := Hall.out _ (List.getElem_mem hlq)
          generalize ps[j] = x at hx hs
          generalize qs[j] = y at hy ht
          have exy : x.c = y.c := by
            have h1 : (ps.map Pm.c)[j]? = some x.c := by simp [hx]
            have h2 : (qs.map Pm.c)[j]? = some y.c := by simp [hy]
            rw [Hcon.out, h1] at h2
            exact Option.some.inj h2
          obtain ⟨tx, sx, lx⟩ := x
          obtain ⟨ty, sy, ly⟩ := y
          obtain ⟨rfl, rfl⟩ := Prod.mk.inj exy
          have hbr := below_step B3.out B3.out.size Hj.out
          obtain ⟨hc1, hc2⟩ := pm_cells hg hbr hx
          obtain ⟨hd1, hd2⟩ := pm_cells hg3 Hj.out hy
          simp only at hs ht hc1 hc2 hd1 hd2
          have hs' := hs
          have ht' := ht
          obtain ⟨As, cs, rfl, _⟩ := hs'
          obtain ⟨At, ct, rfl, _⟩ := ht'
          have HS := Lib.hid ((hs.below hbr).alloc (.cells #[.int .i64 tx, .slice As lx.length cs] 26))
          have HT := Lib.hid ((ht.below Hj.out).alloc (.cells #[.int .i64 tx, .slice As lx.length cs] 26))
          have HB5 := Lib.hid (Hj.out.alloc hjs (.cells #[.int .i64 tx, .slice As lx.length cs] 26))
          obtain ⟨hd3, hd4⟩ := pm_cells hg3 HB5.out hy
          clear hx hy
          generalize lx.length = nx at hc2 hd2 HS HT HB5 hd3 hd4
          have hG := Row.two (Row.new wr 26 #[.int .i64 tx, .slice As nx cs])
          clear hg hg3 hs ht exy hbr
          go_upto_region 18 with fail
          simp only at hd3 hd4
          generalize wr.alloc (.cells #[.int .i64 tx, .slice As nx cs] 26) = W at HS HT HB5 hd3 hd4 hG ⊢
          generalize wr.heap.size = gp at hG ⊢
          obtain ⟨hG1, hG2⟩ := hG
          clear hc1 hc2 hd1 hd2
          go_quiet ((go_at_call 7; exact Calls.quiet_of_same (same_eq _ _ _ _ HT.out HS.out)))
          go_wp2
          go_roundw
          case rel => exact ⟨j + 1, by omega, by go_num, Lib.hid (below_drewN HB5.out _)⟩
          case measure => simp [intOf]; omega
        · obtain rfl : j = k := by omega
          go_wp2
          go_ret
          exact ⟨rfl, below_step B3.out B3.out.size Hj.out⟩

theorem fnAbortBack_walk (A : Option Addr) (n c : Nat) (ps : List Pm) (w : World) (h : Rd w 2 n (.slice A n c) (pms .i64 ps)) (hn : n = ps.length) (ha : PAll ps w) :
    Calls Tryd.prog 3 #[.slice A n c] w fun z w' => z = .returned (.bool true) ∧ Below w.heap.size w w' := by
  by_cases hb : 10 < n
  · exact fnAbortBack_big A n c ps w h hn ha hb
  by_cases hok : ∀ p ∈ ps, OkPm p
  · exact fnAbortBack_in A n c ps w h hn ha (by omega) hok
  · refine fnAbortBack_not A n c ps w h hn ha (by omega) ?_
    simpa using hok
end Go.Proofs.YtjbegflgbkgjpaaDoor
