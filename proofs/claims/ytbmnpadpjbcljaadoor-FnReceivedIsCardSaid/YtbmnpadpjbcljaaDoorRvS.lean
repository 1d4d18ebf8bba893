/- Contracts of sna32LT, sna32LTE, sna32GT at numbers that lie near each other; of TrailingZeros64, getFirstNonZeroBit, getFirstZeroBit. Conditions: the numbers fit; the table of TrailingZeros64 as it is laid. -/
import Derived.Test.YtbmnpadpjbcljaaDoorRvB
namespace Go.Proofs.YtbmnpadpjbcljaaDoor
open Go.RowKit Go.Lib

theorem sna32LT_upnear (a b : Nat) (w : World) (hb : b < 4294967296) (h1 : a < b) (h2 : b - a < 2147483648) : Calls Tryd.prog 22 #[.int .u32 (a : Int), .int .u32 (b : Int)] w fun e w' => e = .returned (.bool true) ∧ w = w' := by
  have x1 : (a : Int) < (b : Int) := by omega
  have x2 : IntKind.u32.wrap ((b : Int) - (a : Int)) = (b : Int) - (a : Int) := by simp [IntKind.wrap, IntKind.bits, IntKind.signed]; omega
  have x4 : (b : Int) - (a : Int) < 2147483648 := by omega
  have x5 : ¬ (b : Int) - (a : Int) ≥ 2147483648 := by omega
  go_enter Tryd.func22, Tryd.ntmps22
  go_wp2
  all_goals go_ret
  all_goals refine ⟨ret_bool ?_, rfl⟩
  all_goals first | rfl | (simp; done) | (simp; omega)
theorem sna32LT_upfar (a b : Nat) (w : World) (hb : b < 4294967296) (h1 : a < b) (h2 : 2147483648 < b - a) : Calls Tryd.prog 22 #[.int .u32 (a : Int), .int .u32 (b : Int)] w fun e w' => e = .returned (.bool false) ∧ w = w' := by
  have x1 : (a : Int) < (b : Int) := by omega
  have x2 : IntKind.u32.wrap ((b : Int) - (a : Int)) = (b : Int) - (a : Int) := by simp [IntKind.wrap, IntKind.bits, IntKind.signed]; omega
  have x4 : ¬ (b : Int) - (a : Int) < 2147483648 := by omega
  have x5 : (b : Int) - (a : Int) ≥ 2147483648 := by omega
  go_enter Tryd.func22, Tryd.ntmps22
  go_wp2
  all_goals go_ret
  all_goals refine ⟨ret_bool ?_, rfl⟩
  all_goals first | rfl | (simp; done) | (simp; omega)
theorem sna32LT_dnnear (a b : Nat) (w : World) (hb : a < 4294967296) (h1 : b < a) (h2 : a - b < 2147483648) : Calls Tryd.prog 22 #[.int .u32 (a : Int), .int .u32 (b : Int)] w fun e w' => e = .returned (.bool false) ∧ w = w' := by
  have x1 : ¬ (a : Int) < (b : Int) := by omega
  have x3 : (a : Int) > (b : Int) := by omega
  have x2 : IntKind.u32.wrap ((a : Int) - (b : Int)) = (a : Int) - (b : Int) := by simp [IntKind.wrap, IntKind.bits, IntKind.signed]; omega
  have x4 : ¬ (a : Int) - (b : Int) > 2147483648 := by omega
  have x5 : (a : Int) - (b : Int) ≤ 2147483648 := by omega
  go_enter Tryd.func22, Tryd.ntmps22
  go_wp2
  all_goals go_ret
  all_goals refine ⟨ret_bool ?_, rfl⟩
  all_goals first | rfl | (simp; done) | (simp; omega)
theorem sna32LT_dnfar (a b : Nat) (w : World) (hb : a < 4294967296) (h1 : b < a) (h2 : 2147483648 < a - b) : Calls Tryd.prog 22 #[.int .u32 (a : Int), .int .u32 (b : Int)] w fun e w' => e = .returned (.bool true) ∧ w = w' := by
  have x1 : ¬ (a : Int) < (b : Int) := by omega
  have x3 : (a : Int) > (b : Int) := by omega
  have x2 : IntKind.u32.wrap ((a : Int) - (b : Int)) = (a : Int) - (b : Int) := by simp [IntKind.wrap, IntKind.bits, IntKind.signed]; omega
  have x4 : (a : Int) - (b : Int) > 2147483648 := by omega
  have x5 : ¬ (a : Int) - (b : Int) ≤ 2147483648 := by omega
  go_enter Tryd.func22, Tryd.ntmps22
  go_wp2
  all_goals go_ret
  all_goals refine ⟨ret_bool ?_, rfl⟩
  all_goals first | rfl | (simp; done) | (simp; omega)
theorem sna32LT_eq (a b : Nat) (w : World) (h1 : a = b) : Calls Tryd.prog 22 #[.int .u32 (a : Int), .int .u32 (b : Int)] w fun e w' => e = .returned (.bool false) ∧ w = w' := by
  subst h1
  go_enter Tryd.func22, Tryd.ntmps22
  go_wp2
  all_goals go_ret
  all_goals refine ⟨ret_bool ?_, rfl⟩
  all_goals first | rfl | (simp; done) | (simp; omega)
theorem sna32GT_upnear (a b : Nat) (w : World) (hb : b < 4294967296) (h1 : a < b) (h2 : b - a < 2147483648) : Calls Tryd.prog 17 #[.int .u32 (a : Int), .int .u32 (b : Int)] w fun e w' => e = .returned (.bool false) ∧ w = w' := by
  have x1 : (a : Int) < (b : Int) := by omega
  have x2 : IntKind.u32.wrap ((b : Int) - (a : Int)) = (b : Int) - (a : Int) := by simp [IntKind.wrap, IntKind.bits, IntKind.signed]; omega
  have x4 : (b : Int) - (a : Int) < 2147483648 := by omega
  have x5 : ¬ (b : Int) - (a : Int) ≥ 2147483648 := by omega
  go_enter Tryd.func17, Tryd.ntmps17
  go_wp2
  all_goals go_ret
  all_goals refine ⟨ret_bool ?_, rfl⟩
  all_goals first | rfl | (simp; done) | (simp; omega)
theorem sna32GT_upfar (a b : Nat) (w : World) (hb : b < 4294967296) (h1 : a < b) (h2 : 2147483648 < b - a) : Calls Tryd.prog 17 #[.int .u32 (a : Int), .int .u32 (b : Int)] w fun e w' => e = .returned (.bool true) ∧ w = w' := by
  have x1 : (a : Int) < (b : Int) := by omega
  have x2 : IntKind.u32.wrap ((b : Int) - (a : Int)) = (b : Int) - (a : Int) := by simp [IntKind.wrap, IntKind.bits, IntKind.signed]; omega
  have x4 : ¬ (b : Int) - (a : Int) < 2147483648 := by omega
  have x5 : (b : Int) - (a : Int) ≥ 2147483648 := by omega
  go_enter Tryd.func17, Tryd.ntmps17
  go_wp2
  all_goals go_ret
  all_goals refine ⟨ret_bool ?_, rfl⟩
  all_goals first | rfl | (simp; done) | (simp; omega)
theorem sna32GT_dnnear (a b : Nat) (w : World) (hb : a < 4294967296) (h1 : b < a) (h2 : a - b < 2147483648) : Calls Tryd.prog 17 #[.int .u32 (a : Int), .int .u32 (b : Int)] w fun e w' => e = .returned (.bool true) ∧ w = w' := by
  have x1 : ¬ (a : Int) < (b : Int) := by omega
  have x3 : (a : Int) > (b : Int) := by omega
  have x2 : IntKind.u32.wrap ((a : Int) - (b : Int)) = (a : Int) - (b : Int) := by simp [IntKind.wrap, IntKind.bits, IntKind.signed]; omega
  have x4 : ¬ (a : Int) - (b : Int) > 2147483648 := by omega
  have x5 : (a : Int) - (b : Int) ≤ 2147483648 := by omega
  go_enter Tryd.func17, Tryd.ntmps17
  go_wp2
  all_goals go_ret
  all_goals refine ⟨ret_bool ?_, rfl⟩
  all_goals first | rfl | (simp; done) | (simp; omega)
theorem sna32GT_dnfar (a b : Nat) (w : World) (hb : a < 4294967296) (h1 : b < a) (h2 : 2147483648 < a - b) : Calls Tryd.prog 17 #[.int .u32 (a : Int), .int .u32 (b : Int)] w fun e w' => e = .returned (.bool false) ∧ w = w' := by
  have x1 : ¬ (a : Int) < (b : Int) := by omega
  have x3 : (a : Int) > (b : Int) := by omega
  have x2 : IntKind.u32.wrap ((a : Int) - (b : Int)) = (a : Int) - (b : Int) := by simp [IntKind.wrap, IntKind.bits, IntKind.signed]; omega
  have x4 : (a : Int) - (b : Int) > 2147483648 := by omega
  have x5 : ¬ (a : Int) - (b : Int) ≤ 2147483648 := by omega
  go_enter Tryd.func17, Tryd.ntmps17
  go_wp2
  all_goals go_ret
  all_goals refine ⟨ret_bool ?_, rfl⟩
  all_goals first | rfl | (simp; done) | (simp; omega)
theorem sna32GT_eq (a b : Nat) (w : World) (h1 : a = b) : Calls Tryd.prog 17 #[.int .u32 (a : Int), .int .u32 (b : Int)] w fun e w' => e = .returned (.bool false) ∧ w = w' := by
  subst h1
  go_enter Tryd.func17, Tryd.ntmps17
  go_wp2
  all_goals go_ret
  all_goals refine ⟨ret_bool ?_, rfl⟩
  all_goals first | rfl | (simp; done) | (simp; omega)

/-- Two numbers counted from one place on, near each other. -/
theorem sna32LT_near (first x y : Nat) (w : World) (hf : first < 4294967296) (hx : x ≤ 1000000) (hy : y ≤ 1000000) : Calls Tryd.prog 22 #[.int .u32 (tsnOf first x : Nat), .int .u32 (tsnOf first y : Nat)] w fun e w' => e = .returned (.bool (decide (x < y))) ∧ w = w' := by
  have ha := tsnOf_lt first x
  have hb := tsnOf_lt first y
  have hc : (tsnOf first x = first + x ∨ tsnOf first x + 4294967296 = first + x) ∧ (tsnOf first y = first + y ∨ tsnOf first y + 4294967296 = first + y) := by unfold tsnOf; omega
  generalize tsnOf first x = a at ha hc
  generalize tsnOf first y = b at hb hc
  rcases Nat.lt_trichotomy x y with h | h | h
  · rw [decide_eq_true (by omega)]
    rcases Nat.lt_or_ge a b with h1 | h1
    · exact sna32LT_upnear a b w hb h1 (by omega)
    · exact sna32LT_dnfar a b w ha (by omega) (by omega)
  · rw [decide_eq_false (by omega)]
    exact sna32LT_eq a b w (by omega)
  · rw [decide_eq_false (by omega)]
    rcases Nat.lt_or_ge b a with h1 | h1
    · exact sna32LT_dnnear a b w ha h1 (by omega)
    · exact sna32LT_upfar a b w hb (by omega) (by omega)

/-- Two numbers counted from one place on, near each other. -/
theorem sna32GT_near (first x y : Nat) (w : World) (hf : first < 4294967296) (hx : x ≤ 1000000) (hy : y ≤ 1000000) : Calls Tryd.prog 17 #[.int .u32 (tsnOf first x : Nat), .int .u32 (tsnOf first y : Nat)] w fun e w' => e = .returned (.bool (decide (y < x))) ∧ w = w' := by
  have ha := tsnOf_lt first x
  have hb := tsnOf_lt first y
  have hc : (tsnOf first x = first + x ∨ tsnOf first x + 4294967296 = first + x) ∧ (tsnOf first y = first + y ∨ tsnOf first y + 4294967296 = first + y) := by unfold tsnOf; omega
  generalize tsnOf first x = a at ha hc
  generalize tsnOf first y = b at hb hc
  rcases Nat.lt_trichotomy x y with h | h | h
  · rw [decide_eq_false (by omega)]
    rcases Nat.lt_or_ge a b with h1 | h1
    · exact sna32GT_upnear a b w hb h1 (by omega)
    · exact sna32GT_dnfar a b w ha (by omega) (by omega)
  · rw [decide_eq_false (by omega)]
    exact sna32GT_eq a b w (by omega)
  · rw [decide_eq_true (by omega)]
    rcases Nat.lt_or_ge b a with h1 | h1
    · exact sna32GT_dnnear a b w ha h1 (by omega)
    · exact sna32GT_upfar a b w hb (by omega) (by omega)

theorem sna32LTE_near (first x y : Nat) (w : World) (hf : first < 4294967296) (hx : x ≤ 1000000) (hy : y ≤ 1000000) : Calls Tryd.prog 18 #[.int .u32 (tsnOf first x : Nat), .int .u32 (tsnOf first y : Nat)] w fun e w' => e = .returned (.bool (decide (x ≤ y))) ∧ w = w' := by
  by_cases he : x = y
  · subst he
    rw [decide_eq_true (Nat.le_refl _)]
    generalize tsnOf first x = a
    go_enter Tryd.func18, Tryd.ntmps18
    go_wp2
    go_ret
    exact ⟨ret_bool (by simp), rfl⟩
  · have hne : tsnOf first x ≠ tsnOf first y := by unfold tsnOf; omega
    have hb : ((tsnOf first x : Int) == (tsnOf first y : Int)) = false := by rw [beq_eq_false_iff_ne]; omega
    have hh : ¬ (tsnOf first x : Int) = (tsnOf first y : Int) := by omega
    have hc := sna32LT_near first x y w hf hx hy
    rw [show decide (x < y) = decide (x ≤ y) by simp; omega] at hc
    have Hc := Lib.hid hc
    clear hc
    generalize tsnOf first x = a at hb hh Hc ⊢
    generalize tsnOf first y = b at hb hh Hc ⊢
    generalize decide (x ≤ y) = r at Hc ⊢
    go_enter Tryd.func18, Tryd.ntmps18
    go_wp2_with fail
    refine Hc.out.mono ?_
    rintro e w' ⟨rfl, rfl⟩
    cases r
    all_goals
      go_wp2
      go_ret
      exact ⟨rfl, rfl⟩

/-- The table of TrailingZeros64 in its variable. -/
def TabAt (w : World) : Prop := ∀ j, j < 64 → w.cell? ⟨0, j, none⟩ = some (.int .u8 (deBruijn64tab.getD j 0 : Nat))
theorem TabAt.below {w w' : World} (h : TabAt w) (hb : Below w.heap.size w w') : TabAt w' := fun j hj => (hb.cell (World.block_lt_of_cell? w _ (h j hj))).trans (h j hj)
theorem TabAt.drew {w : World} (h : TabAt w) : TabAt w.drew := h

theorem tz_key (x a : Nat) (hx : x < 18446744073709551616) (hx0 : x ≠ 0) (hlow : x &&& (18446744073709551616 - x) = a) :
    IntKind.u64.wrap (bits BinOp.and IntKind.u64 (x : Int) (IntKind.u64.wrap (-(x : Int))) * 285870213051353865) / 288230376151711744 = ((a * 285870213051353865 % 18446744073709551616 / 288230376151711744 : Nat) : Int) := by
  have e1 : IntKind.u64.wrap (-(x : Int)) = ((18446744073709551616 - x : Nat) : Int) := by rw [IntKind.wrap_u64]; omega
  rw [e1, bits_and_u64_nat x _ hx (by omega), hlow, IntKind.wrap_u64]
  omega

theorem tz_core (x k idx : Nat) (w : World) (hx0 : ((x : Int) == 0) = false)
    (key : IntKind.u64.wrap (bits BinOp.and IntKind.u64 (x : Int) (IntKind.u64.wrap (-(x : Int))) * 285870213051353865) / 288230376151711744 = (idx : Int))
    (hi : idx < 64) (hk : k < 64) (hcell : w.cell? ⟨0, idx, none⟩ = some (.int .u8 (k : Int))) :
    Calls Tryd.prog 23 #[.int .u64 (x : Int)] w fun e w' => e = .returned (.int .i64 (k : Int)) ∧ w = w' := by
  go_enter Tryd.func23, Tryd.ntmps23
  go_wp2_with (simp only [key])
  go_ret
  exact ⟨rfl, rfl⟩

theorem tz_any (x : Nat) (hx : x < 18446744073709551616) (w : World) (hT : TabAt w) :
    Calls Tryd.prog 23 #[.int .u64 (x : Int)] w fun e w' => e = .returned (.int .i64 (ctz 64 x : Nat)) ∧ w = w' := by
  by_cases hx0 : x = 0
  · subst hx0
    rw [ctz_zero]
    go_enter Tryd.func23, Tryd.ntmps23
    go_wp2
    go_ret
    exact ⟨rfl, rfl⟩
  · obtain ⟨hlow, hk⟩ := lowest_bit 64 x hx0 hx
    obtain ⟨hi, htab⟩ := deBruijn64_at _ hk
    have hcell := hT _ hi
    rw [htab] at hcell
    exact tz_core x (ctz 64 x) _ w (by rw [beq_eq_false_iff_ne]; omega) (tz_key x _ hx hx0 (by simpa using hlow)) hi hk hcell

/-- getFirstNonZeroBit: where the first bit stands, and whether that is in the word. -/
theorem nzb_any (x o : Nat) (hx : x < 18446744073709551616) (ho : o < 64) (w : World) (hT : TabAt w) :
    Calls Tryd.prog 20 #[.int .u64 (x : Int), .int .i64 (o : Int), .int .i64 64] w fun e w' => e = .returned (.tuple #[.int .i64 ((ctz 64 (x >>> o) + o : Nat) : Int), .bool (decide (ctz 64 (x >>> o) + o < 64))]) ∧ w = w' := by
  have hy : x >>> o < 18446744073709551616 := Nat.lt_of_le_of_lt (Nat.shiftRight_le _ _) hx
  have hc := (ctz_from (o := o) hx ho).2.2
  have HT := Lib.hid hT
  generalize hce : ctz 64 (x >>> o) = c at hc ⊢
  have Hce := Lib.hid hce
  clear hT hce
  go_enter Tryd.func20, Tryd.ntmps20
  go_wp2_with fail
  rw [show (x : Int) / 2 ^ o = ((x >>> o : Nat) : Int) by rw [Nat.shiftRight_eq_div_pow, Int.natCast_ediv, Int.natCast_pow]; rfl]
  refine (tz_any _ hy w HT.out).mono ?_
  rintro e w' ⟨rfl, rfl⟩
  rw [Hce.out]
  go_wp2
  go_ret2
  refine ⟨?_, rfl⟩
  congr 3
  · congr 1
    simp
    omega

theorem bits_not_u64 (x : Nat) (hx : x < 18446744073709551616) : bits .xor .u64 IntKind.u64.max (x : Int) = ((18446744073709551615 - x : Nat) : Int) := by
  have h1 : (BitVec.ofInt 64 IntKind.u64.max).toNat = 18446744073709551615 := by decide
  have h2 : (BitVec.ofInt 64 (x : Int)).toNat = x := by
    rw [BitVec.ofInt_natCast, BitVec.toNat_ofNat]; exact Nat.mod_eq_of_lt (by omega)
  have h3 : 18446744073709551615 ^^^ x = 18446744073709551615 - x := by
    apply Nat.eq_of_testBit_eq
    intro i
    have e1 : (18446744073709551615 : Nat).testBit i = decide (i < 64) := by
      rw [show (18446744073709551615 : Nat) = 2 ^ 64 - 1 by rfl, Nat.testBit_two_pow_sub_one]
    rw [Nat.testBit_xor, e1, show 18446744073709551615 - x = 2 ^ 64 - (x + 1) by omega, Nat.testBit_two_pow_sub_succ (by omega)]
    by_cases hi : i < 64
    · simp [hi]
    · have : x.testBit i = false := Nat.testBit_lt_two_pow (Nat.lt_of_lt_of_le hx (Nat.pow_le_pow_right (n := 2) (i := 64) (by decide) (by omega)))
      simp [hi, this]
  show IntKind.u64.wrap ((BitVec.ofInt 64 IntKind.u64.max ^^^ BitVec.ofInt 64 (x : Int)).toNat : Int) = _
  rw [BitVec.toNat_xor, h1, h2, h3, IntKind.wrap_u64]
  omega

/-- getFirstZeroBit likewise, of the word turned. -/
theorem zb_any (x o : Nat) (hx : x < 18446744073709551616) (ho : o < 64) (w : World) (hT : TabAt w) :
    Calls Tryd.prog 21 #[.int .u64 (x : Int), .int .i64 (o : Int), .int .i64 64] w fun e w' => e = .returned (.tuple #[.int .i64 ((ctz 64 ((18446744073709551615 - x) >>> o) + o : Nat) : Int), .bool (decide (ctz 64 ((18446744073709551615 - x) >>> o) + o < 64))]) ∧ w = w' := by
  have HT := Lib.hid hT
  clear hT
  go_enter Tryd.func21, Tryd.ntmps21
  go_wp2_with fail
  rw [bits_not_u64 x hx]
  refine (nzb_any _ o (by omega) ho w HT.out).mono ?_
  rintro e w' ⟨rfl, rfl⟩
  go_wp2
  go_ret2
  exact ⟨rfl, rfl⟩
end Go.Proofs.YtbmnpadpjbcljaaDoor
