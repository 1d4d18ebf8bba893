/- The walk of FnSackIs. No condition but that the numbers are of their kinds. -/
import Derived.Test.YtnaihmmfnffejaaDoorSkO
import Derived.Test.YtnaihmmfnffejaaDoorSkS
import Derived.Test.YtnaihmmfnffejaaDoorFwW
namespace Go.Proofs.YtnaihmmfnffejaaDoor
open Go.RowKit Go.Lib

theorem fnSackIs_big (tsn win : Int) (A : Option Addr) (n c : Nat) (B : Option Addr) (q d : Nat) (w : World) (h : 2147483647 < (n : Int) ∨ 2147483647 < (q : Int)) :
    Calls Tryd.prog 8 #[.agg #[.int .u32 tsn, .int .u32 win, .slice A n c, .slice B q d]] w fun z w' => z = .returned (.bool true) ∧ Below w.heap.size w w' := by
  have Hh := Lib.hid h
  clear h
  go_enter Tryd.func8, Tryd.ntmps8
  go_wp2_with fail
  refine (fits3_no tsn win A n c B q d _ Hh.out).mono ?_
  rintro z w1 ⟨rfl, hb1⟩
  have B1 := Lib.hid (((Below.refl w.heap.size w).alloc (Nat.le_refl _) (.cells #[.int .u32 tsn, .int .u32 win, .slice A n c, .slice B q d] 44)).trans (hb1.mono (by simp)))
  clear hb1
  go_wp2
  go_ret
  exact ⟨rfl, B1.out⟩

theorem fnSackIs_not (tsn win : Int) (A : Option Addr) (n c : Nat) (B : Option Addr) (q d : Nat) (g : List (Int × Int)) (w : World) (hs : Rd w 2 n (.slice A n c) (prs .i64 g)) (hn : n = g.length) (h0 : (n : Int) ≤ 2147483647) (h1 : (q : Int) ≤ 2147483647) (h : ¬ (n ≤ 1000 ∧ q ≤ 1000 ∧ ∀ p ∈ g, Ok16 p)) :
    Calls Tryd.prog 8 #[.agg #[.int .u32 tsn, .int .u32 win, .slice A n c, .slice B q d]] w fun z w' => z = .returned (.bool true) ∧ Below w.heap.size w w' := by
  have Hh := Lib.hid h
  have Hn := Lib.hid hn
  have Hs := Lib.hid hs
  have hg := Row.new w 44 #[.int .u32 tsn, .int .u32 win, .slice A n c, .slice B q d]
  clear h hn hs
  go_enter Tryd.func8, Tryd.ntmps8
  go_wp2_with fail
  refine (fits3_yes tsn win A n c B q d _ h0 h1).mono ?_
  rintro z w1 ⟨rfl, hb1⟩
  have B1 := Lib.hid (((Below.refl w.heap.size w).alloc (Nat.le_refl _) (.cells #[.int .u32 tsn, .int .u32 win, .slice A n c, .slice B q d] 44)).trans (hb1.mono (by simp)))
  have k1 := Row.four (hg.below hb1 hg.lt)
  clear hb1 hg
  go_wp2_with fail
  refine (isSk_no tsn win A n c B q d g _ (Hs.out.below B1.out) Hn.out Hh.out).mono ?_
  rintro z w2 ⟨rfl, hb2⟩
  have B2 := Lib.hid (below_step B1.out B1.out.size hb2)
  clear hb2
  go_wp2
  go_ret
  exact ⟨rfl, B2.out⟩

set_option maxRecDepth 20000 in
set_option maxHeartbeats 1600000 in
theorem fnSackIs_in (tsn win : Int) (A : Option Addr) (n c : Nat) (B : Option Addr) (q d : Nat) (g : List (Int × Int)) (l : List Int) (w : World) (hs : Rd w 2 n (.slice A n c) (prs .i64 g)) (hn : n = g.length) (hl : n ≤ 1000) (hp : ∀ p ∈ g, Ok16 p)
    (hs' : Rd w 1 q (.slice B q d) (u32s l)) (hq : q = l.length) (hl' : q ≤ 1000) (hz : ∀ z ∈ l, Ok32 z) (ht0 : 0 ≤ tsn) (ht : tsn ≤ 4294967295) (hw0 : 0 ≤ win) (hw : win ≤ 4294967295) :
    Calls Tryd.prog 8 #[.agg #[.int .u32 tsn, .int .u32 win, .slice A n c, .slice B q d]] w fun z w' => z = .returned (.bool true) ∧ Below w.heap.size w w' := by
  have HP := Lib.hid hp
  have Hn := Lib.hid hn
  have Hs := Lib.hid hs
  have HZ := Lib.hid hz
  have Hq := Lib.hid hq
  have Hs' := Lib.hid hs'
  have hg := Row.new w 44 #[.int .u32 tsn, .int .u32 win, .slice A n c, .slice B q d]
  clear hp hn hs hz hq hs'
  go_enter Tryd.func8, Tryd.ntmps8
  go_wp2_with fail
  refine (fits3_yes tsn win A n c B q d _ (by omega) (by omega)).mono ?_
  rintro z w1 ⟨rfl, hb1⟩
  have B1 := Lib.hid (((Below.refl w.heap.size w).alloc (Nat.le_refl _) (.cells #[.int .u32 tsn, .int .u32 win, .slice A n c, .slice B q d] 44)).trans (hb1.mono (by simp)))
  have G1 := Lib.hid (hg.below hb1 hg.lt)
  have k1 := Row.four G1.out
  clear hb1 hg
  go_wp2_with fail
  refine (isSk_yes tsn win A n c B q d g _ (Hs.out.below B1.out) Hn.out hl hl' HP.out).mono ?_
  rintro z w2 ⟨rfl, hb2⟩
  have B2 := Lib.hid (below_step B1.out B1.out.size hb2)
  have G2 := Lib.hid (G1.out.below hb2 G1.out.lt)
  have k2 := Row.four G2.out
  clear hb2 k1 G1
  go_wp2_with fail
  refine (sktext_any tsn win A n c B q d g l _ (Hs.out.below B2.out) Hn.out hl HP.out (Hs'.out.below B2.out) Hq.out hl' HZ.out ht0 ht hw0 hw).mono ?_
  rintro z w3 ⟨A3, n3, c3, rfl, hs3, hb3⟩
  have B3 := Lib.hid (below_step B2.out B2.out.size hb3)
  have G3 := Lib.hid (G2.out.below hb3 G2.out.lt)
  have S3 := Lib.hid hs3
  have k3 := Row.four G3.out
  clear hb3 hs3 k2 G2
  go_wp2_with fail
  refine (specsk_any tsn win A n c B q d g l _ (Hs.out.below B3.out) Hn.out hl HP.out (Hs'.out.below B3.out) Hq.out hl' HZ.out ht0 ht hw0 hw).mono ?_
  rintro z w4 ⟨A4, n4, c4, rfl, hs4, hb4⟩
  have B4 := Lib.hid (below_step B3.out B3.out.size hb4)
  have G4 := Lib.hid (G3.out.below hb4 G3.out.lt)
  have S34 := Lib.hid (S3.out.below hb4)
  have S4 := Lib.hid hs4
  have k4 := Row.four G4.out
  clear hb4 hs4 k3 G3
  go_wp2_with fail
  refine (skof_any _ tsn.toNat win.toNat g l _ S4.out (by have := Hn.out; omega) (by have := Hq.out; omega) (by omega) (by omega) HP.out HZ.out).mono ?_
  rintro z w5 ⟨A5, c5, D5, d5, rfl, hs5, hs5', hb5⟩
  rw [← Hn.out] at hs5 ⊢
  rw [← Hq.out] at hs5' ⊢
  rw [show ((tsn.toNat : Nat) : Int) = tsn by omega, show ((win.toNat : Nat) : Int) = win by omega]
  have B5 := Lib.hid (below_step B4.out B4.out.size hb5)
  have G5 := Lib.hid (G4.out.below hb5 G4.out.lt)
  have S35 := Lib.hid (S34.out.below hb5)
  have S5 := Lib.hid hs5
  have S5' := Lib.hid hs5'
  have k5 := Row.four (G5.out.alloc (.cells #[.int .u32 tsn, .int .u32 win, .slice A5 n c5, .slice D5 q d5] 44))
  clear hb5 hs5 hs5' k4 G4
  go_wp2_with fail
  have ha := (Hs.out.below B5.out).alloc (.cells #[.int .u32 tsn, .int .u32 win, .slice A5 n c5, .slice D5 q d5] 44)
  have ha' := (Hs'.out.below B5.out).alloc (.cells #[.int .u32 tsn, .int .u32 win, .slice A5 n c5, .slice D5 q d5] 44)
  refine (specsk_any tsn win A n c B q d g l _ ha Hn.out hl HP.out ha' Hq.out hl' HZ.out ht0 ht hw0 hw).mono ?_
  rintro z w6 ⟨A6, n6, c6, rfl, hs6, hb6⟩
  have hB5 := B5.out.alloc B5.out.size (.cells #[.int .u32 tsn, .int .u32 win, .slice A5 n c5, .slice D5 q d5] 44)
  have hX := (Row.new w5 44 #[.int .u32 tsn, .int .u32 win, .slice A5 n c5, .slice D5 q d5]).below hb6 (by simp)
  have G6 := Lib.hid ((G5.out.alloc (.cells #[.int .u32 tsn, .int .u32 win, .slice A5 n c5, .slice D5 q d5] 44)).below hb6 (G5.out.alloc _).lt)
  have B6 := Lib.hid (below_step hB5 hB5.size hb6)
  have S36 := Lib.hid ((S35.out.alloc (.cells #[.int .u32 tsn, .int .u32 win, .slice A5 n c5, .slice D5 q d5] 44)).below hb6)
  have S56 := Lib.hid ((S5.out.alloc (.cells #[.int .u32 tsn, .int .u32 win, .slice A5 n c5, .slice D5 q d5] 44)).below hb6)
  have S56' := Lib.hid ((S5'.out.alloc (.cells #[.int .u32 tsn, .int .u32 win, .slice A5 n c5, .slice D5 q d5] 44)).below hb6)
  have S6 := Lib.hid hs6
  have X6 := Lib.hid hX
  have k6 := Row.four G6.out
  have k7 := Row.four X6.out
  clear hb6 hs6 k5 G5 hX hB5 ha ha' S35 S5 S5'
  go_wp2_with fail
  refine (same_any _ _ _ _ _ S36.out S6.out).mono ?_
  rintro z w7 ⟨rfl, rfl⟩
  rw [decide_eq_true (rfl : chunk 3 0 (skbody tsn.toNat win.toNat g l) = chunk 3 0 (skbody tsn.toNat win.toNat g l))]
  have hsx := Hs.out.below B6.out
  obtain ⟨A', c', hv, hnc, hcm, hl0, h0, hc⟩ := hsx
  injection hv with e1 e2 e3
  subst e1 e3
  have HC := Lib.hid hc
  clear hl0 h0 hc e2
  have hsy := S56.out
  obtain ⟨A', c', hv, hnc5, hcm5, hl0, h0, hc⟩ := hsy
  injection hv with e1 e2 e3
  subst e1 e3
  have HC5 := Lib.hid hc
  clear hl0 h0 hc e2
  have hsx := Hs'.out.below B6.out
  obtain ⟨A', c', hv, hnd, hdm, hl0, h0, hc⟩ := hsx
  injection hv with e1 e2 e3
  subst e1 e3
  have HD := Lib.hid hc
  clear hl0 h0 hc e2
  have hsy := S56'.out
  obtain ⟨A', c', hv, hnd5, hdm5, hl0, h0, hc⟩ := hsy
  injection hv with e1 e2 e3
  subst e1 e3
  have HD5 := Lib.hid hc
  clear hl0 h0 hc e2
  unfold maxLen at hcm hcm5 hdm hdm5
  generalize w5.heap.size = X at X6 k7 ⊢
  go_wp2_with fail
  go_loopw [74] (fun i wr => ∃ k : Nat, k ≤ n ∧ i = .int .i64 k ∧ ∃ q, wr = w6.drewN q) (fun i _ => n - (intOf i).toNat)
  case atStart => exact ⟨0, Nat.zero_le _, rfl, 0, rfl⟩
  case round =>
    obtain ⟨k, hk, rfl, qq, rfl⟩ := hrel
    by_cases hlt : k < n
    · obtain ⟨g0, o, rfl, hg⟩ := HC.out (by omega)
      obtain ⟨g5, o5, rfl, hg5⟩ := HC5.out (by omega)
      have hlk : k < g.length := by have := Hn.out; omega
      have hx : g[k]? = some g[k] := List.getElem?_eq_getElem hlk
      generalize g[k] = x at hx
      obtain ⟨p1, p2⟩ := x
      obtain ⟨hc1, hc2⟩ := pr_cells hg (Below.refl _ _) hx
      obtain ⟨hd1, hd2⟩ := pr_cells hg5 (Below.refl _ _) hx
      have hcmp := pair_eq p1 p2
      clear hx hg hg5
      go_wp2_with fail
      go_quiet (fail)
      go_wp2
      go_roundw
      case rel => exact ⟨k + 1, by omega, by go_num, _, rfl⟩
      case measure => simp [intOf]; omega
    · obtain rfl : k = n := by omega
      go_wp2_with fail
      go_loopw [92] (fun i wr => ∃ j : Nat, j ≤ q ∧ i = .int .i64 j ∧ ∃ q, wr = w6.drewN q) (fun i _ => q - (intOf i).toNat)
      case atStart => exact ⟨0, Nat.zero_le _, rfl, _, rfl⟩
      case round =>
        obtain ⟨j, hj, rfl, qr, rfl⟩ := hrel
        by_cases hltq : j < q
        · obtain ⟨g0, o, rfl, hg⟩ := HD.out (by omega)
          obtain ⟨g5, o5, rfl, hg5⟩ := HD5.out (by omega)
          have hlk : j < l.length := by have := Hq.out; omega
          have hx : l[j]? = some l[j] := List.getElem?_eq_getElem hlk
          generalize l[j] = x at hx
          have hc1 : w6.cell? ⟨g0, o + j, none⟩ = some (.int .u32 x) := hg j _ (u32s_get l j x hx)
          have hc2 : w6.cell? ⟨g5, o5 + j, none⟩ = some (.int .u32 x) := hg5 j _ (u32s_get l j x hx)
          clear hx hg hg5
          go_wp2_with fail
          go_quiet (fail)
          go_wp2
          go_roundw
          case rel => exact ⟨j + 1, by omega, by go_num, _, rfl⟩
          case measure => simp [intOf]; omega
        · obtain rfl : j = q := by omega
          go_wp2
          go_ret
          exact ⟨rfl, below_drewN B6.out _⟩

theorem fnSackIs_walk (tsn win : Int) (A : Option Addr) (n c : Nat) (B : Option Addr) (q d : Nat) (g : List (Int × Int)) (l : List Int) (w : World) (hs : Rd w 2 n (.slice A n c) (prs .i64 g)) (hn : n = g.length)
    (hs' : Rd w 1 q (.slice B q d) (u32s l)) (hq : q = l.length) (hz : ∀ z ∈ l, Ok32 z) (ht0 : 0 ≤ tsn) (ht : tsn ≤ 4294967295) (hw0 : 0 ≤ win) (hw : win ≤ 4294967295) :
    Calls Tryd.prog 8 #[.agg #[.int .u32 tsn, .int .u32 win, .slice A n c, .slice B q d]] w fun z w' => z = .returned (.bool true) ∧ Below w.heap.size w w' := by
  by_cases h : 2147483647 < (n : Int) ∨ 2147483647 < (q : Int)
  · exact fnSackIs_big tsn win A n c B q d w h
  by_cases h2 : n ≤ 1000 ∧ q ≤ 1000 ∧ ∀ p ∈ g, Ok16 p
  · exact fnSackIs_in tsn win A n c B q d g l w hs hn h2.1 h2.2.2 hs' hq h2.2.1 hz ht0 ht hw0 hw
  · exact fnSackIs_not tsn win A n c B q d g w hs hn (by omega) (by omega) h2
end Go.Proofs.YtnaihmmfnffejaaDoor
