/- The walk of FnForwardIs. No condition but that the number is of its kind. -/
import Derived.Test.YtnaihmmfnffejaaDoorFwO
import Derived.ChangeKeysEq
namespace Go.Proofs.YtnaihmmfnffejaaDoor
open Go.RowKit Go.Lib

/-- A pair is equal to itself. -/
theorem pair_eq (a b : Int) (w : World) : (Op.equalIn 10000 50 (.agg #[.int .i64 a, .int .i64 b]) (.agg #[.int .i64 a, .int .i64 b])).run Tryd.prog w = .ok true w := by
  obtain ⟨i, hi⟩ : ∃ i, Tryd.prog.info? 3 = some i := by
    have h : (Tryd.prog.info? 3).isSome = true := by kernel_rfl
    exact Option.isSome_iff_exists.1 h
  have hc : Tryd.prog.cellsOf 3 = 1 := by kernel_rfl
  rw [run_equalIn_array (P := Tryd.prog) w 9999 _ _ Tryd.underlying50 hi, hc]
  have he : Tryd.prog.plainKey 3 = true := by kernel_rfl
  have p0 := run_part_plain (P := Tryd.prog) w he (xs := #[.int .i64 a, .int .i64 b]) (off := 0) (v := .int .i64 a) rfl
  have p1 := run_part_plain (P := Tryd.prog) w he (xs := #[.int .i64 a, .int .i64 b]) (off := 1) (v := .int .i64 b) rfl
  have q0 := run_equalIn_int (P := Tryd.prog) w 9998 3 .i64 .i64 a a Tryd.underlying3
  have q1 := run_equalIn_int (P := Tryd.prog) w 9998 3 .i64 .i64 b b Tryd.underlying3
  have q0' : (Op.equalIn 9999 3 (.int .i64 a) (.int .i64 a)).run Tryd.prog w = .ok true w := q0.trans (by simp)
  have q1' : (Op.equalIn 9999 3 (.int .i64 b) (.int .i64 b)).run Tryd.prog w = .ok true w := q1.trans (by simp)
  simp only [show List.range 2 = [0, 1] from rfl, Op.eqItems, Sem.run_bind, Nat.zero_mul, Nat.one_mul, p0, p1, q0', q1', Result.andThen_ok, Bool.not_true, Bool.false_eq_true, if_false, Sem.run_pure]

theorem fnForwardIs_big (tsn : Int) (A : Option Addr) (n c : Nat) (w : World) (h : 2147483647 < (n : Int)) :
    Calls Tryd.prog 9 #[.agg #[.int .u32 tsn, .slice A n c]] w fun z w' => z = .returned (.bool true) ∧ Below w.heap.size w w' := by
  go_enter Tryd.func9, Tryd.ntmps9
  go_wp2_with fail
  refine (fits4_any tsn A n c _).mono ?_
  rintro z w1 ⟨rfl, hb1⟩
  rw [decide_eq_false (by omega)]
  have B1 := Lib.hid (((Below.refl w.heap.size w).alloc (Nat.le_refl _) (.cells #[.int .u32 tsn, .slice A n c] 52)).trans (hb1.mono (by simp)))
  clear hb1
  go_wp2
  go_ret
  exact ⟨rfl, B1.out⟩

theorem fnForwardIs_not (tsn : Int) (A : Option Addr) (n c : Nat) (l : List (Int × Int)) (w : World) (hs : Rd w 2 n (.slice A n c) (prs .i64 l)) (hn : n = l.length) (h0 : (n : Int) ≤ 2147483647) (h : ¬ (n ≤ 1000 ∧ ∀ p ∈ l, Ok16 p)) :
    Calls Tryd.prog 9 #[.agg #[.int .u32 tsn, .slice A n c]] w fun z w' => z = .returned (.bool true) ∧ Below w.heap.size w w' := by
  have Hh := Lib.hid h
  have Hn := Lib.hid hn
  have Hs := Lib.hid hs
  have hg := Row.new w 52 #[.int .u32 tsn, .slice A n c]
  clear h hn hs
  go_enter Tryd.func9, Tryd.ntmps9
  go_wp2_with fail
  refine (fits4_any tsn A n c _).mono ?_
  rintro z w1 ⟨rfl, hb1⟩
  rw [decide_eq_true h0]
  have B1 := Lib.hid (((Below.refl w.heap.size w).alloc (Nat.le_refl _) (.cells #[.int .u32 tsn, .slice A n c] 52)).trans (hb1.mono (by simp)))
  have k1 := Row.two (hg.below hb1 hg.lt)
  clear hb1 hg
  go_wp2_with fail
  refine (isFw_no tsn A n c l _ (Hs.out.below B1.out) Hn.out Hh.out).mono ?_
  rintro z w2 ⟨rfl, hb2⟩
  have B2 := Lib.hid (below_step B1.out B1.out.size hb2)
  clear hb2
  go_wp2
  go_ret
  exact ⟨rfl, B2.out⟩

set_option maxRecDepth 20000 in
set_option maxHeartbeats 800000 in
theorem fnForwardIs_in (tsn : Int) (A : Option Addr) (n c : Nat) (l : List (Int × Int)) (w : World) (hs : Rd w 2 n (.slice A n c) (prs .i64 l)) (hn : n = l.length) (hl : n ≤ 1000) (hp : ∀ p ∈ l, Ok16 p) (ht0 : 0 ≤ tsn) (ht : tsn ≤ 4294967295) :
    Calls Tryd.prog 9 #[.agg #[.int .u32 tsn, .slice A n c]] w fun z w' => z = .returned (.bool true) ∧ Below w.heap.size w w' := by
  have HP := Lib.hid hp
  have Hn := Lib.hid hn
  have Hs := Lib.hid hs
  have hg := Row.new w 52 #[.int .u32 tsn, .slice A n c]
  clear hp hn hs
  go_enter Tryd.func9, Tryd.ntmps9
  go_wp2_with fail
  refine (fits4_any tsn A n c _).mono ?_
  rintro z w1 ⟨rfl, hb1⟩
  rw [decide_eq_true (by omega)]
  have B1 := Lib.hid (((Below.refl w.heap.size w).alloc (Nat.le_refl _) (.cells #[.int .u32 tsn, .slice A n c] 52)).trans (hb1.mono (by simp)))
  have G1 := Lib.hid (hg.below hb1 hg.lt)
  have k1 := Row.two G1.out
  clear hb1 hg
  go_wp2_with fail
  refine (isFw_yes tsn A n c l _ (Hs.out.below B1.out) Hn.out hl HP.out).mono ?_
  rintro z w2 ⟨rfl, hb2⟩
  have B2 := Lib.hid (below_step B1.out B1.out.size hb2)
  have G2 := Lib.hid (G1.out.below hb2 G1.out.lt)
  have k2 := Row.two G2.out
  clear hb2 k1 G1
  go_wp2_with fail
  refine (fwtext_any tsn A n c l _ (Hs.out.below B2.out) Hn.out hl HP.out ht0 ht).mono ?_
  rintro z w3 ⟨A3, n3, c3, rfl, hs3, hb3⟩
  have B3 := Lib.hid (below_step B2.out B2.out.size hb3)
  have G3 := Lib.hid (G2.out.below hb3 G2.out.lt)
  have S3 := Lib.hid hs3
  have k3 := Row.two G3.out
  clear hb3 hs3 k2 G2
  go_wp2_with fail
  refine (specfw_any tsn A n c l _ (Hs.out.below B3.out) Hn.out hl HP.out ht0 ht).mono ?_
  rintro z w4 ⟨A4, n4, c4, rfl, hs4, hb4⟩
  have B4 := Lib.hid (below_step B3.out B3.out.size hb4)
  have G4 := Lib.hid (G3.out.below hb4 G3.out.lt)
  have S34 := Lib.hid (S3.out.below hb4)
  have S4 := Lib.hid hs4
  have k4 := Row.two G4.out
  clear hb4 hs4 k3 G3
  go_wp2_with fail
  refine (fwof_any _ tsn.toNat l _ S4.out (by have := Hn.out; omega) (by omega) HP.out).mono ?_
  rintro z w5 ⟨A5, c5, rfl, hs5, hb5⟩
  rw [← Hn.out] at hs5 ⊢
  rw [show ((tsn.toNat : Nat) : Int) = tsn by omega]
  have B5 := Lib.hid (below_step B4.out B4.out.size hb5)
  have G5 := Lib.hid (G4.out.below hb5 G4.out.lt)
  have S35 := Lib.hid (S34.out.below hb5)
  have S5 := Lib.hid hs5
  have k5 := Row.two (G5.out.alloc (.cells #[.int .u32 tsn, .slice A5 n c5] 52))
  clear hb5 hs5 k4 G4
  go_wp2_with fail
  have ha := (Hs.out.below B5.out).alloc (.cells #[.int .u32 tsn, .slice A5 n c5] 52)
  refine (specfw_any tsn A n c l _ ha Hn.out hl HP.out ht0 ht).mono ?_
  rintro z w6 ⟨A6, n6, c6, rfl, hs6, hb6⟩
  have hB5 := B5.out.alloc B5.out.size (.cells #[.int .u32 tsn, .slice A5 n c5] 52)
  have hX := (Row.new w5 52 #[.int .u32 tsn, .slice A5 n c5]).below hb6 (by simp)
  have G6 := Lib.hid ((G5.out.alloc (.cells #[.int .u32 tsn, .slice A5 n c5] 52)).below hb6 (G5.out.alloc _).lt)
  have B6 := Lib.hid (below_step hB5 hB5.size hb6)
  have S36 := Lib.hid ((S35.out.alloc (.cells #[.int .u32 tsn, .slice A5 n c5] 52)).below hb6)
  have S56 := Lib.hid ((S5.out.alloc (.cells #[.int .u32 tsn, .slice A5 n c5] 52)).below hb6)
  have S6 := Lib.hid hs6
  have X6 := Lib.hid hX
  have k6 := Row.two G6.out
  have k7 := Row.two X6.out
  clear hb6 hs6 k5 G5 hX hB5 ha S35 S5
  go_wp2_with fail
  refine (same_any _ _ _ _ _ S36.out S6.out).mono ?_
  rintro z w7 ⟨rfl, rfl⟩
  rw [decide_eq_true (rfl : chunk 192 0 (fwbody tsn.toNat l) = chunk 192 0 (fwbody tsn.toNat l))]
  have hsx := Hs.out.below B6.out
  obtain ⟨A', c', hv, hnc, hcm, hl0, h0, hc⟩ := hsx
  injection hv with e1 e2 e3
  subst e1 e3
  have HC := Lib.hid hc
  clear hl0 h0 hc e2
  have hsy := S56.out
  obtain ⟨A', c', hv, hnc5, hcm5, hl0, h0, hc⟩ := hsy
  injection hv with e1 e2 e3
  subst e1 e3
  have HC5 := Lib.hid hc
  clear hl0 h0 hc e2
  unfold maxLen at hcm hcm5
  generalize w5.heap.size = X at X6 k7 ⊢
  go_wp2_with fail
  go_loopw [57] (fun i wr => ∃ k : Nat, k ≤ n ∧ i = .int .i64 k ∧ ∃ q, wr = w6.drewN q) (fun i _ => n - (intOf i).toNat)
  case atStart => exact ⟨0, Nat.zero_le _, rfl, 0, rfl⟩
  case round =>
    obtain ⟨k, hk, rfl, q, rfl⟩ := hrel
    by_cases hlt : k < n
    · obtain ⟨g, o, rfl, hg⟩ := HC.out (by omega)
      obtain ⟨g5, o5, rfl, hg5⟩ := HC5.out (by omega)
      have hlk : k < l.length := by have := Hn.out; omega
      have hx : l[k]? = some l[k] := List.getElem?_eq_getElem hlk
      generalize l[k] = x at hx
      obtain ⟨p1, p2⟩ := x
      obtain ⟨hc1, hc2⟩ := pr_cells hg (Below.refl _ _) hx
      obtain ⟨hd1, hd2⟩ := pr_cells hg5 (Below.refl _ _) hx
      have hcmp := pair_eq p1 p2
      clear hx hg hg5
      go_wp2_with fail
      go_quiet (fail)
      go_wp2
      go_roundw
      case rel => exact ⟨k + 1, by omega, by go_num, _, rfl⟩
      case measure => simp [intOf]; omega
    · obtain rfl : k = n := by omega
      go_wp2
      go_ret
      exact ⟨rfl, below_drewN B6.out _⟩

theorem fnForwardIs_walk (tsn : Int) (A : Option Addr) (n c : Nat) (l : List (Int × Int)) (w : World) (hs : Rd w 2 n (.slice A n c) (prs .i64 l)) (hn : n = l.length) (ht0 : 0 ≤ tsn) (ht : tsn ≤ 4294967295) :
    Calls Tryd.prog 9 #[.agg #[.int .u32 tsn, .slice A n c]] w fun z w' => z = .returned (.bool true) ∧ Below w.heap.size w w' := by
  by_cases h : 2147483647 < (n : Int)
  · exact fnForwardIs_big tsn A n c w h
  by_cases h2 : n ≤ 1000 ∧ ∀ p ∈ l, Ok16 p
  · exact fnForwardIs_in tsn A n c l w hs hn h2.1 h2.2 ht0 ht
  · exact fnForwardIs_not tsn A n c l w hs hn (by omega) h2
end Go.Proofs.YtnaihmmfnffejaaDoor
