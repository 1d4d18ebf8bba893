/- The walk of FnReceivedIs. No condition but that the number is of its kind. -/
import Derived.Test.YtbmnpadpjbcljaaDoorRvT
import Derived.ChangeKeysEq
namespace Go.Proofs.YtbmnpadpjbcljaaDoor
open Go.RowKit Go.Lib

/-- A pair is equal to itself. -/
theorem pair_eq (a b : Int) (w : World) : (Op.equalIn 10000 32 (.agg #[.int .i64 a, .int .i64 b]) (.agg #[.int .i64 a, .int .i64 b])).run Tryd.prog w = .ok true w := by
  obtain ⟨i, hi⟩ : ∃ i, Tryd.prog.info? 3 = some i := by
    have h : (Tryd.prog.info? 3).isSome = true := by kernel_rfl
    exact Option.isSome_iff_exists.1 h
  have hc : Tryd.prog.cellsOf 3 = 1 := by kernel_rfl
  rw [run_equalIn_array (P := Tryd.prog) w 9999 _ _ Tryd.underlying32 hi, hc]
  have he : Tryd.prog.plainKey 3 = true := by kernel_rfl
  have p0 := run_part_plain (P := Tryd.prog) w he (xs := #[.int .i64 a, .int .i64 b]) (off := 0) (v := .int .i64 a) rfl
  have p1 := run_part_plain (P := Tryd.prog) w he (xs := #[.int .i64 a, .int .i64 b]) (off := 1) (v := .int .i64 b) rfl
  have q0 := run_equalIn_int (P := Tryd.prog) w 9998 3 .i64 .i64 a a Tryd.underlying3
  have q1 := run_equalIn_int (P := Tryd.prog) w 9998 3 .i64 .i64 b b Tryd.underlying3
  have q0' : (Op.equalIn 9999 3 (.int .i64 a) (.int .i64 a)).run Tryd.prog w = .ok true w := q0.trans (by simp)
  have q1' : (Op.equalIn 9999 3 (.int .i64 b) (.int .i64 b)).run Tryd.prog w = .ok true w := q1.trans (by simp)
  simp only [show List.range 2 = [0, 1] from rfl, Op.eqItems, Sem.run_bind, Nat.zero_mul, Nat.one_mul, p0, p1, q0', q1', Result.andThen_ok, Bool.not_true, Bool.false_eq_true, if_false, Sem.run_pure]

/-- Ints as cells. -/
def i64s (l : List Int) : List Value := l.map fun z => .int .i64 z
theorem i64s_length (l : List Int) : (i64s l).length = l.length := by simp [i64s]
theorem i64s_nat {l : List Int} (h : ∀ z ∈ l, 1 ≤ z ∧ z ≤ 1000) : ∃ L : List Nat, l = L.map (fun (x : Nat) => (x : Int)) ∧ i64s l = ics L ∧ L.length = l.length ∧ ∀ x ∈ L, 1 ≤ x ∧ x ≤ 1000 := by
  refine ⟨l.map Int.toNat, ?_, ?_, by simp, fun x hx => ?_⟩
  · rw [List.map_map]
    refine (List.map_id l).symm.trans (List.map_congr_left fun z hz => ?_)
    have := h z hz
    simp
    omega
  · unfold i64s ics
    rw [List.map_map]
    refine List.map_congr_left fun z hz => ?_
    have := h z hz
    simp
    omega
  · obtain ⟨z, hz, rfl⟩ := List.mem_map.1 hx
    have := h z hz
    omega

set_option maxRecDepth 20000 in
theorem fnReceivedIs_big (first : Nat) (A : Option Addr) (n c : Nat) (w : World) (h : 100 < n) :
    Calls Tryd.prog 3 #[.int .u32 (first : Int), .slice A n c] w fun z w' => z = .returned (.bool true) ∧ Below w.heap.size w w' := by
  by_cases h2 : 2147483647 < (n : Int)
  · go_enter Tryd.func3, Tryd.ntmps3
    go_wp2
    go_ret
    exact ⟨rfl, Below.refl _ _⟩
  · go_enter Tryd.func3, Tryd.ntmps3
    go_wp2
    go_ret
    exact ⟨rfl, Below.refl _ _⟩

set_option maxRecDepth 20000 in
set_option maxHeartbeats 1600000 in
theorem fnReceivedIs_in (first : Nat) (A : Option Addr) (n c : Nat) (l : List Int) (w : World) (hf : first < 4294967296) (h : Rd w 1 n (.slice A n c) (i64s l)) (hn : n = l.length) (hl : n ≤ 100) (hT : TabAt w) :
    Calls Tryd.prog 3 #[.int .u32 (first : Int), .slice A n c] w fun z w' => z = .returned (.bool true) ∧ Below w.heap.size w w' := by
  have H0 := Lib.hid h
  obtain ⟨A', c', hv, hnc, hcm, hl0, h0, hc⟩ := h
  injection hv with e1 e2 e3
  subst e1 e3
  have HC := Lib.hid hc
  have Hn := Lib.hid hn
  have HT := Lib.hid hT
  clear hc h0 hl0 hn hT e2
  unfold maxLen at hcm
  go_enter Tryd.func3, Tryd.ntmps3
  go_wp2_with fail
  go_loopw [20] (fun i wr => ∃ k : Nat, k ≤ n ∧ i = .int .i64 (k : Int) ∧ wr = w ∧ Hid (∀ j z, j < k → l[j]? = some z → 1 ≤ z ∧ z ≤ 1000)) (fun i _ => n - (intOf i).toNat)
  case atStart => exact ⟨0, Nat.zero_le _, rfl, rfl, Lib.hid (fun j z h => by omega)⟩
  case round =>
    obtain ⟨k, hk, rfl, rfl, HI⟩ := hrel
    by_cases hlt : k < n
    · obtain ⟨g, o, rfl, hg⟩ := HC.out (by omega)
      have hlk : k < l.length := by have := Hn.out; omega
      have hx : l[k]? = some l[k] := List.getElem?_eq_getElem hlk
      generalize l[k] = x at hx
      have hcx := hg k (.int .i64 x) (by simp [i64s, hx])
      have Hx := Lib.hid hx
      clear hx hg H0
      by_cases hx1 : x < 1
      · go_wp2
        go_ret
        exact ⟨rfl, Below.refl _ _⟩
      · by_cases hx2 : 1000 < x
        · go_wp2
          go_ret
          exact ⟨rfl, Below.refl _ _⟩
        · go_wp2
          refine ⟨⟨k + 1, by omega, by go_num, by trivial, Lib.hid (fun j z hj hz => ?_)⟩, by simp [intOf]; omega⟩
          rcases Nat.lt_or_ge j k with h3 | h3
          · exact HI.out j z h3 hz
          · obtain rfl : j = k := by omega
            rw [Hx.out] at hz
            injection hz with hz
            omega
    · obtain rfl : k = n := by omega
      have hall : ∀ z ∈ l, 1 ≤ z ∧ z ≤ 1000 := fun z hz => by
        obtain ⟨j, hj⟩ := List.mem_iff_getElem?.1 hz
        exact HI.out j z (by have := (List.getElem?_eq_some_iff.1 hj).1; have := Hn.out; omega) hj
      obtain ⟨L, _, hL2, hL3, hL4⟩ := i64s_nat hall
      have hR0 := H0.out
      rw [hL2, Hn.out, ← hL3] at hR0
      have hln : L.length = k := by rw [hL3, Hn.out]
      rw [hln] at hR0
      have HR0 := Lib.hid hR0
      have HL := Lib.hid hln
      have HL4 := Lib.hid hL4
      clear hR0 hln hL4 hL2 hL3 hall HI H0
      go_wp2_with fail
      refine (specrcv_any first L (.slice A k c) wr hf (by rw [HL.out]; exact HR0.out) (by rw [HL.out]; omega) HL4.out).mono ?_
      rintro e w1 ⟨d1, A1, c1, A2, c2, hP1, rfl, r1, r2, b1⟩
      obtain ⟨hR1, _⟩ := allRuns_ok (c := d1) HL4.out
      have htl := twice_le L L.length
      have hlk := HL.out
      obtain ⟨R, hR⟩ : ∃ R, R = allRuns L d1 := ⟨_, rfl⟩
      obtain ⟨T, hT⟩ : ∃ T, T = twice L L.length := ⟨_, rfl⟩
      rw [← hR] at r1 hR1 ⊢
      rw [← hT] at r2 htl ⊢
      obtain ⟨m, hm⟩ : ∃ m, m = R.length := ⟨_, rfl⟩
      obtain ⟨q, hq⟩ : ∃ q, q = T.length := ⟨_, rfl⟩
      rw [← hm] at r1 hR1 ⊢
      rw [← hq] at r2 htl ⊢
      have hq1 : q ≤ 100 := by omega
      have HR := Lib.hid hR
      have HTT := Lib.hid hT
      have Hm := Lib.hid hm
      have Hq := Lib.hid hq
      have HP1 := Lib.hid hP1
      have hG := Row.new w1 27 #[.int .u32 (tsnOf first d1 : Nat), .int .u32 0, .slice A1 m c1, .slice A2 q c2]
      have G1 := Lib.hid hG
      have D1 := Lib.hid (r1.alloc (.cells #[.int .u32 (tsnOf first d1 : Nat), .int .u32 0, .slice A1 m c1, .slice A2 q c2] 27))
      have E1 := Lib.hid (r2.alloc (.cells #[.int .u32 (tsnOf first d1 : Nat), .int .u32 0, .slice A1 m c1, .slice A2 q c2] 27))
      have B1 := Lib.hid (b1.alloc b1.size (.cells #[.int .u32 (tsnOf first d1 : Nat), .int .u32 0, .slice A1 m c1, .slice A2 q c2] 27))
      clear hR hT hm hq hP1 hG r1 r2 b1 htl hlk
      go_wp2_with fail
      refine (numbers_any first L (.slice A k c) _ hf (by rw [HL.out]; exact HR0.out.below B1.out) (by rw [HL.out]; omega) HL4.out).mono ?_
      rintro e w2 ⟨A3, c3, rfl, r3, b3⟩
      generalize w1.alloc (.cells #[.int .u32 (tsnOf first d1 : Nat), .int .u32 0, .slice A1 m c1, .slice A2 q c2] 27) = W1 at G1 D1 E1 B1 b3
      have G2 := Lib.hid (G1.out.below b3 G1.out.lt)
      have D2 := Lib.hid (D1.out.below b3)
      have E2 := Lib.hid (E1.out.below b3)
      have B2 := Lib.hid (below_step B1.out B1.out.size b3)
      have R3 := Lib.hid r3
      clear r3 b3
      go_wp2_with fail
      refine (implrcv_any first L _ w2 hf R3.out (by rw [HL.out]; omega) HL4.out (HT.out.below B2.out)).mono ?_
      rintro e w3 ⟨d2, A4, c4, A5, c5, hP2, rfl, r4, r5, b5⟩
      obtain rfl : d2 = d1 := hP2.unique HP1.out
      rw [← HR.out, ← Hm.out] at r4
      rw [← HTT.out, ← Hq.out] at r5
      rw [← HR.out, ← HTT.out, ← Hm.out, ← Hq.out, HL.out]
      rw [← gI_cells] at r4
      generalize w1.heap.size = X at G2 ⊢
      have G3 := (G2.out.below b5 G2.out.lt)
      have hX3 := G3.lt
      have G4 := Lib.hid (G3.alloc (.cells #[.int .u32 (tsnOf first d2 : Nat), .int .u32 0, .slice A4 m c4, .slice A5 q c5] 27))
      have K4 := Lib.hid (Row.new w3 27 #[.int .u32 (tsnOf first d2 : Nat), .int .u32 0, .slice A4 m c4, .slice A5 q c5])
      have D4 := Lib.hid ((D2.out.below b5).alloc (.cells #[.int .u32 (tsnOf first d2 : Nat), .int .u32 0, .slice A4 m c4, .slice A5 q c5] 27))
      have E4 := Lib.hid ((E2.out.below b5).alloc (.cells #[.int .u32 (tsnOf first d2 : Nat), .int .u32 0, .slice A4 m c4, .slice A5 q c5] 27))
      have D5 := Lib.hid (r4.alloc (.cells #[.int .u32 (tsnOf first d2 : Nat), .int .u32 0, .slice A4 m c4, .slice A5 q c5] 27))
      have E5 := Lib.hid (r5.alloc (.cells #[.int .u32 (tsnOf first d2 : Nat), .int .u32 0, .slice A4 m c4, .slice A5 q c5] 27))
      have B5' := below_step B2.out B2.out.size b5
      have B5 := Lib.hid (B5'.alloc B5'.size (.cells #[.int .u32 (tsnOf first d2 : Nat), .int .u32 0, .slice A4 m c4, .slice A5 q c5] 27))
      clear G3 r4 r5 b5 B5' hP2 G1 D1 E1 B1 D2 E2 R3
      go_upto_region 13 with fail
      generalize w3.alloc (.cells #[.int .u32 (tsnOf first d2 : Nat), .int .u32 0, .slice A4 m c4, .slice A5 q c5] 27) = W at G4 K4 D4 E4 D5 E5 B5 ⊢
      generalize w3.heap.size = Y at K4 hX3 ⊢
      obtain ⟨x0, x1, x2, x3⟩ := G4.out.four
      obtain ⟨y0, y1, y2, y3⟩ := K4.out.four
      have hsa := D4.out
      rw [gI_cells] at hsa
      obtain ⟨A', c', hv, hnc1, hcm1, hl0, h0, hc⟩ := hsa
      injection hv with e1 e2 e3
      subst e1 e3
      have HC1 := Lib.hid hc
      clear hl0 h0 hc e2
      have hsb := D5.out
      rw [gI_cells] at hsb
      obtain ⟨A', c', hv, hnc2, hcm2, hl0, h0, hc⟩ := hsb
      injection hv with e1 e2 e3
      subst e1 e3
      have HC2 := Lib.hid hc
      clear hl0 h0 hc e2
      have hsc := E4.out
      obtain ⟨A', c', hv, hnc3, hcm3, hl0, h0, hc⟩ := hsc
      injection hv with e1 e2 e3
      subst e1 e3
      have HC3 := Lib.hid hc
      clear hl0 h0 hc e2
      have hsd := E5.out
      obtain ⟨A', c', hv, hnc4, hcm4, hl0, h0, hc⟩ := hsd
      injection hv with e1 e2 e3
      subst e1 e3
      have HC4 := Lib.hid hc
      clear hl0 h0 hc e2
      unfold maxLen at hcm1 hcm2 hcm3 hcm4
      go_wp2_with fail
      go_loopw [72] (fun i wr => ∃ j : Nat, j ≤ m ∧ i = .int .i64 j ∧ ∃ q, wr = W.drewN q) (fun i _ => m - (intOf i).toNat)
      case atStart => exact ⟨0, Nat.zero_le _, rfl, 0, rfl⟩
      case round =>
        obtain ⟨j, hj, rfl, nq, rfl⟩ := hrel
        by_cases hlt2 : j < m
        · obtain ⟨g, o, rfl, hg⟩ := HC1.out (by omega)
          obtain ⟨g5, o5, rfl, hg5⟩ := HC2.out (by omega)
          have hlk : j < (gI R).length := by rw [gI_length, ← Hm.out]; exact hlt2
          have hx : (gI R)[j]? = some (gI R)[j] := List.getElem?_eq_getElem hlk
          generalize (gI R)[j] = x at hx
          obtain ⟨p1, p2⟩ := x
          obtain ⟨hc1, hc2⟩ := pr_cells hg (Below.refl _ _) hx
          obtain ⟨hd1, hd2⟩ := pr_cells hg5 (Below.refl _ _) hx
          have hcmp := pair_eq p1 p2
          clear hx hg hg5
          go_wp2_with fail
          go_quiet (fail)
          go_wp2
          go_roundw
          case rel => exact ⟨j + 1, by omega, by go_num, _, rfl⟩
          case measure => simp [intOf]; omega
        · obtain rfl : j = m := by omega
          go_wp2_with fail
          go_loopw [90] (fun i wr => ∃ j : Nat, j ≤ q ∧ i = .int .i64 j ∧ ∃ q, wr = W.drewN q) (fun i _ => q - (intOf i).toNat)
          case atStart => exact ⟨0, Nat.zero_le _, rfl, _, rfl⟩
          case round =>
            obtain ⟨i, hi, rfl, nq', rfl⟩ := hrel
            by_cases hlt3 : i < q
            · obtain ⟨g, o, rfl, hg⟩ := HC3.out (by omega)
              obtain ⟨g5, o5, rfl, hg5⟩ := HC4.out (by omega)
              have hlk : i < T.length := by rw [← Hq.out]; exact hlt3
              have hx : T[i]? = some T[i] := List.getElem?_eq_getElem hlk
              generalize T[i] = x at hx
              have hc1 := hg i (.int .u32 (tsnOf first x : Nat)) (by simp [dcs, hx])
              have hd1 := hg5 i (.int .u32 (tsnOf first x : Nat)) (by simp [dcs, hx])
              clear hx hg hg5
              go_wp2_with fail
              go_quiet (fail)
              go_wp2
              go_roundw
              case rel => exact ⟨i + 1, by omega, by go_num, _, rfl⟩
              case measure => simp [intOf]; omega
            · obtain rfl : i = q := by omega
              go_wp2
              go_ret
              exact ⟨rfl, below_drewN B5.out _⟩

theorem fnReceivedIs_walk (first : Int) (A : Option Addr) (c : Nat) (l : List Int) (w : World) (h : Rd w 1 l.length (.slice A l.length c) (i64s l)) (ht0 : 0 ≤ first) (ht : first ≤ 4294967295) (hT : TabAt w) :
    Calls Tryd.prog 3 #[.int .u32 first, .slice A l.length c] w fun z w' => z = .returned (.bool true) ∧ Below w.heap.size w w' := by
  obtain ⟨f, rfl⟩ : ∃ f : Nat, first = (f : Int) := ⟨first.toNat, by omega⟩
  by_cases h2 : l.length ≤ 100
  · exact fnReceivedIs_in f A l.length c l w (by omega) h rfl h2 hT
  · exact fnReceivedIs_big f A l.length c w (by omega)
end Go.Proofs.YtbmnpadpjbcljaaDoor
