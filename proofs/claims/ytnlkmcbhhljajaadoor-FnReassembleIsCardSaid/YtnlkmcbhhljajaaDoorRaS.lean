/- Contracts of sna32LT, sna16LT, sna16GT at numbers that lie near each other. Conditions: the numbers fit. -/
import Derived.Test.YtnlkmcbhhljajaaDoorRaL
namespace Go.Proofs.YtnlkmcbhhljajaaDoor
open Go.RowKit Go.Lib

theorem sna32LT_upnear (a b : Nat) (w : World) (hb : b < 4294967296) (h1 : a < b) (h2 : b - a < 2147483648) : Calls Tryd.prog 44 #[.int .u32 (a : Int), .int .u32 (b : Int)] w fun e w' => e = .returned (.bool true) ∧ w = w' := by
  have x1 : (a : Int) < (b : Int) := by omega
  have x2 : IntKind.u32.wrap ((b : Int) - (a : Int)) = (b : Int) - (a : Int) := by simp [IntKind.wrap, IntKind.bits, IntKind.signed]; omega
  have x4 : (b : Int) - (a : Int) < 2147483648 := by omega
  have x5 : ¬ (b : Int) - (a : Int) ≥ 2147483648 := by omega
  go_enter Tryd.func44, Tryd.ntmps44
  go_wp2
  all_goals go_ret
  all_goals refine ⟨ret_bool ?_, rfl⟩
  all_goals first | rfl | (simp; done) | (simp; omega)
theorem sna32LT_upfar (a b : Nat) (w : World) (hb : b < 4294967296) (h1 : a < b) (h2 : 2147483648 < b - a) : Calls Tryd.prog 44 #[.int .u32 (a : Int), .int .u32 (b : Int)] w fun e w' => e = .returned (.bool false) ∧ w = w' := by
  have x1 : (a : Int) < (b : Int) := by omega
  have x2 : IntKind.u32.wrap ((b : Int) - (a : Int)) = (b : Int) - (a : Int) := by simp [IntKind.wrap, IntKind.bits, IntKind.signed]; omega
  have x4 : ¬ (b : Int) - (a : Int) < 2147483648 := by omega
  have x5 : (b : Int) - (a : Int) ≥ 2147483648 := by omega
  go_enter Tryd.func44, Tryd.ntmps44
  go_wp2
  all_goals go_ret
  all_goals refine ⟨ret_bool ?_, rfl⟩
  all_goals first | rfl | (simp; done) | (simp; omega)
theorem sna32LT_dnnear (a b : Nat) (w : World) (hb : a < 4294967296) (h1 : b < a) (h2 : a - b < 2147483648) : Calls Tryd.prog 44 #[.int .u32 (a : Int), .int .u32 (b : Int)] w fun e w' => e = .returned (.bool false) ∧ w = w' := by
  have x1 : ¬ (a : Int) < (b : Int) := by omega
  have x3 : (a : Int) > (b : Int) := by omega
  have x2 : IntKind.u32.wrap ((a : Int) - (b : Int)) = (a : Int) - (b : Int) := by simp [IntKind.wrap, IntKind.bits, IntKind.signed]; omega
  have x4 : ¬ (a : Int) - (b : Int) > 2147483648 := by omega
  have x5 : (a : Int) - (b : Int) ≤ 2147483648 := by omega
  go_enter Tryd.func44, Tryd.ntmps44
  go_wp2
  all_goals go_ret
  all_goals refine ⟨ret_bool ?_, rfl⟩
  all_goals first | rfl | (simp; done) | (simp; omega)
theorem sna32LT_dnfar (a b : Nat) (w : World) (hb : a < 4294967296) (h1 : b < a) (h2 : 2147483648 < a - b) : Calls Tryd.prog 44 #[.int .u32 (a : Int), .int .u32 (b : Int)] w fun e w' => e = .returned (.bool true) ∧ w = w' := by
  have x1 : ¬ (a : Int) < (b : Int) := by omega
  have x3 : (a : Int) > (b : Int) := by omega
  have x2 : IntKind.u32.wrap ((a : Int) - (b : Int)) = (a : Int) - (b : Int) := by simp [IntKind.wrap, IntKind.bits, IntKind.signed]; omega
  have x4 : (a : Int) - (b : Int) > 2147483648 := by omega
  have x5 : ¬ (a : Int) - (b : Int) ≤ 2147483648 := by omega
  go_enter Tryd.func44, Tryd.ntmps44
  go_wp2
  all_goals go_ret
  all_goals refine ⟨ret_bool ?_, rfl⟩
  all_goals first | rfl | (simp; done) | (simp; omega)
theorem sna32LT_eq (a b : Nat) (w : World) (h1 : a = b) : Calls Tryd.prog 44 #[.int .u32 (a : Int), .int .u32 (b : Int)] w fun e w' => e = .returned (.bool false) ∧ w = w' := by
  subst h1
  go_enter Tryd.func44, Tryd.ntmps44
  go_wp2
  all_goals go_ret
  all_goals refine ⟨ret_bool ?_, rfl⟩
  all_goals first | rfl | (simp; done) | (simp; omega)

/-- Two numbers counted from one place on, near each other. -/
theorem sna32LT_near (first x y : Nat) (w : World) (hf : first < 4294967296) (hx : x ≤ 1000000) (hy : y ≤ 1000000) : Calls Tryd.prog 44 #[.int .u32 (tsnOf first x : Nat), .int .u32 (tsnOf first y : Nat)] w fun e w' => e = .returned (.bool (decide (x < y))) ∧ w = w' := by
  have ha := tsnOf_lt first x
  have hb := tsnOf_lt first y
  have hc : (tsnOf first x = first + x ∨ tsnOf first x + 4294967296 = first + x) ∧ (tsnOf first y = first + y ∨ tsnOf first y + 4294967296 = first + y) := by unfold tsnOf; omega
  generalize tsnOf first x = a at ha hc
  generalize tsnOf first y = b at hb hc
  rcases Nat.lt_trichotomy x y with h | h | h
  · rw [decide_eq_true (by omega)]
    rcases Nat.lt_or_ge a b with h1 | h1
    · exact sna32LT_upnear a b w hb h1 (by omega)
    · exact sna32LT_dnfar a b w ha (by omega) (by omega)
  · rw [decide_eq_false (by omega)]
    exact sna32LT_eq a b w (by omega)
  · rw [decide_eq_false (by omega)]
    rcases Nat.lt_or_ge b a with h1 | h1
    · exact sna32LT_dnnear a b w ha h1 (by omega)
    · exact sna32LT_upfar a b w hb (by omega) (by omega)

theorem sna16LT_near (a b : Nat) (w : World) (ha : a ≤ 30000) (hb : b ≤ 30000) : Calls Tryd.prog 30 #[.int .u16 (a : Int), .int .u16 (b : Int)] w fun e w' => e = .returned (.bool (decide (a < b))) ∧ w = w' := by
  rcases Nat.lt_trichotomy a b with h | h | h
  · have x1 : (a : Int) < (b : Int) := by omega
    have x2 : IntKind.u16.wrap ((b : Int) - (a : Int)) = (b : Int) - (a : Int) := by simp [IntKind.wrap, IntKind.bits, IntKind.signed]; omega
    have x4 : (b : Int) - (a : Int) < 32768 := by omega
    have x5 : ¬ (b : Int) - (a : Int) ≥ 32768 := by omega
    go_enter Tryd.func30, Tryd.ntmps30
    go_wp2
    all_goals go_ret
    all_goals refine ⟨ret_bool ?_, rfl⟩
    all_goals first | (simp; done) | (simp; omega)
  · subst h
    go_enter Tryd.func30, Tryd.ntmps30
    go_wp2
    all_goals go_ret
    all_goals refine ⟨ret_bool ?_, rfl⟩
    all_goals first | (simp; done) | (simp; omega)
  · have x1 : ¬ (a : Int) < (b : Int) := by omega
    have x3 : (a : Int) > (b : Int) := by omega
    have x2 : IntKind.u16.wrap ((a : Int) - (b : Int)) = (a : Int) - (b : Int) := by simp [IntKind.wrap, IntKind.bits, IntKind.signed]; omega
    have x4 : ¬ (a : Int) - (b : Int) > 32768 := by omega
    have x5 : (a : Int) - (b : Int) ≤ 32768 := by omega
    go_enter Tryd.func30, Tryd.ntmps30
    go_wp2
    all_goals go_ret
    all_goals refine ⟨ret_bool ?_, rfl⟩
    all_goals first | (simp; done) | (simp; omega)

theorem sna16GT_near (a b : Nat) (w : World) (ha : a ≤ 30000) (hb : b ≤ 30000) : Calls Tryd.prog 21 #[.int .u16 (a : Int), .int .u16 (b : Int)] w fun e w' => e = .returned (.bool (decide (b < a))) ∧ w = w' := by
  rcases Nat.lt_trichotomy a b with h | h | h
  · have x1 : (a : Int) < (b : Int) := by omega
    have x2 : IntKind.u16.wrap ((b : Int) - (a : Int)) = (b : Int) - (a : Int) := by simp [IntKind.wrap, IntKind.bits, IntKind.signed]; omega
    have x4 : (b : Int) - (a : Int) < 32768 := by omega
    have x5 : ¬ (b : Int) - (a : Int) ≥ 32768 := by omega
    go_enter Tryd.func21, Tryd.ntmps21
    go_wp2
    all_goals go_ret
    all_goals refine ⟨ret_bool ?_, rfl⟩
    all_goals first | (simp; done) | (simp; omega)
  · subst h
    go_enter Tryd.func21, Tryd.ntmps21
    go_wp2
    all_goals go_ret
    all_goals refine ⟨ret_bool ?_, rfl⟩
    all_goals first | (simp; done) | (simp; omega)
  · have x1 : ¬ (a : Int) < (b : Int) := by omega
    have x3 : (a : Int) > (b : Int) := by omega
    have x2 : IntKind.u16.wrap ((a : Int) - (b : Int)) = (a : Int) - (b : Int) := by simp [IntKind.wrap, IntKind.bits, IntKind.signed]; omega
    have x4 : ¬ (a : Int) - (b : Int) > 32768 := by omega
    have x5 : (a : Int) - (b : Int) ≤ 32768 := by omega
    go_enter Tryd.func21, Tryd.ntmps21
    go_wp2
    all_goals go_ret
    all_goals refine ⟨ret_bool ?_, rfl⟩
    all_goals first | (simp; done) | (simp; omega)
end Go.Proofs.YtnlkmcbhhljajaaDoor
