/- The law FnLess16Is returns true for every pair of uint16 and changes nothing that was there. No condition. -/
import Derived.Test.YtnaihmmfnffejaaRows
import Derived.WalkKit
import Derived.ProofKit
import Derived.OpenShut
import Derived.Lib.Hide
namespace Go.Proofs.Ytnaihmmfnffejaa.fnLess16Is
open Go.ChangeShapes Go.WideShapes Go.ChangeAt Go.RowKit
set_option linter.unusedVariables false

theorem own : ownKnob Try.prog.godebug = none := by kernel_rfl

theorem ret_bool {a b : Bool} (h : a = b) : Ending.returned (.bool a) = .returned (.bool b) := by rw [h]
set_option maxHeartbeats 4000000 in
theorem walk (a0 : Int) (a1 : Int) (w0 : (Lit.int .u16 a0).wf = true) (w1 : (Lit.int .u16 a1).wf = true) (w : World) :
    Calls Try.prog 4 #[.int .u16 a0, .int .u16 a1] w fun e w' => e = .returned (.bool true) ∧ Grown w w' := by
  have b0 := bounds_u16 w0
  have b1 := bounds_u16 w1
  rcases Int.lt_trichotomy a0 a1 with h | h | h
  · have e1 : IntKind.u16.wrap (a0 - a1) = a0 - a1 + 65536 := by simp [IntKind.wrap, IntKind.bits, IntKind.signed]; omega
    by_cases hd : a1 - a0 = 32768
    · have H := Lib.hid hd; clear hd
      have e2 : (IntKind.u16.wrap (a0 - a1) == 32768) = true := by rw [e1, beq_iff_eq]; have := H.out; omega
      go_enter Try.func4, Try.ntmps4
      go_wp2
      all_goals go_ret
      all_goals refine ⟨ret_bool ?_, Grown.refl _⟩
      all_goals first | rfl | (simp; done) | (simp; omega)
    · by_cases hl : a1 - a0 < 32768
      · have e2 : (IntKind.u16.wrap (a0 - a1) == 32768) = false := by rw [e1, beq_eq_false_iff_ne]; omega
        have e3 : (a0 == a1) = false := by rw [beq_eq_false_iff_ne]; omega
        have e4 : decide ((a1 + 65536 - a0) % 65536 < 32768) = true := by rw [decide_eq_true_eq]; omega
        go_enter Try.func4, Try.ntmps4
        go_wp2
        all_goals go_ret
        all_goals refine ⟨ret_bool ?_, Grown.refl _⟩
        all_goals first | rfl | (simp; done) | (simp; omega)
      · have e2 : (IntKind.u16.wrap (a0 - a1) == 32768) = false := by rw [e1, beq_eq_false_iff_ne]; omega
        have e3 : (a0 == a1) = false := by rw [beq_eq_false_iff_ne]; omega
        have e4 : decide ((a1 + 65536 - a0) % 65536 < 32768) = false := by rw [decide_eq_false_iff_not]; omega
        go_enter Try.func4, Try.ntmps4
        go_wp2
        all_goals go_ret
        all_goals refine ⟨ret_bool ?_, Grown.refl _⟩
        all_goals first | rfl | (simp; done) | (simp; omega)
  · subst h
    go_enter Try.func4, Try.ntmps4
    go_wp2
    all_goals go_ret
    all_goals refine ⟨ret_bool ?_, Grown.refl _⟩
    all_goals first | rfl | (simp; done) | (simp; omega)
  · by_cases hd : a0 - a1 = 32768
    · have H := Lib.hid hd; clear hd
      have e2 : (a0 - a1 == 32768) = true := by rw [beq_iff_eq]; have := H.out; omega
      go_enter Try.func4, Try.ntmps4
      go_wp2
      all_goals go_ret
      all_goals refine ⟨ret_bool ?_, Grown.refl _⟩
      all_goals first | rfl | (simp; done) | (simp; omega)
    · by_cases hl : a0 - a1 < 32768
      · have e3 : (a0 == a1) = false := by rw [beq_eq_false_iff_ne]; omega
        have e4 : decide ((a1 + 65536 - a0) % 65536 < 32768) = false := by rw [decide_eq_false_iff_not]; omega
        go_enter Try.func4, Try.ntmps4
        go_wp2
        all_goals go_ret
        all_goals refine ⟨ret_bool ?_, Grown.refl _⟩
        all_goals first | rfl | (simp; done) | (simp; omega)
      · have e3 : (a0 == a1) = false := by rw [beq_eq_false_iff_ne]; omega
        have e4 : decide ((a1 + 65536 - a0) % 65536 < 32768) = true := by rw [decide_eq_true_eq]; omega
        go_enter Try.func4, Try.ntmps4
        go_wp2
        all_goals go_ret
        all_goals refine ⟨ret_bool ?_, Grown.refl _⟩
        all_goals first | rfl | (simp; done) | (simp; omega)

set_option maxRecDepth 100000 in
theorem lifted (os : Os) (started : os.Started) (H : Type) (enc : TypeId × Value → H) :
    ReturnsInHanded {} Try.checked os 4 .any (Rows.fnLess16IsSpec.pre6 enc Try.prog Try.f4 Rows.fnLess16IsRow.domain false) (Rows.fnLess16IsSpec.post enc Try.prog Try.f4 false true false false) := by
  refine returnsInHanded_of_change (C := Try.checked) own started (by kernel_rfl) Try.func4
    (ChangeSpec.witness6 (enc := enc) (C := Try.checked) false ⟨#[], #[.int .u16 0, .int .u16 0], []⟩ 8 (by kernel_rfl) (by kernel_rfl) (by kernel_rfl) (by kernel_rfl)) ?_
  intro W base args ds gs before hval0 hW hcnd _
  have hval : ∀ (j : Nat) t v, Try.f4.params[j]? = some t → args[j]? = some v → Value.okWide Try.prog W .any base t v := hval0
  have hW' := hW
  obtain ⟨p, q, hA0, hV, rfl, hfz, hnd⟩ := hW
  have hA : DataW.TrodAll enc Try.prog W 0 (fun _ => true) true Try.f4.params.toList args.toList ds p := hA0
  rw [Try.params4] at hA hval
  obtain ⟨v0, vs0, d0, ds0, p0, q0, hargs, rfl, rfl, h0, r0⟩ := trodAll_cons hA
  obtain ⟨v1, vs1, d1, ds1, p1, q1, rfl, rfl, rfl, h1, r1⟩ := trodAll_cons r0
  obtain ⟨rfl, rfl, rfl⟩ := trodAll_nil r1
  obtain rfl : args = #[v0, v1] := by cases args; simp_all
  obtain ⟨rfl, rfl⟩ := trodVars_none hV
  obtain ⟨a0, rfl, rfl, rfl, w0⟩ := open_int Try.underlying24 (hval 0 24 v0 rfl rfl) h0
  obtain ⟨a1, rfl, rfl, rfl, w1⟩ := open_int Try.underlying24 (hval 1 24 v1 rfl rfl) h1
  clear hA0 hval0
  simp only [List.append_nil] at hW'
  refine (walk a0 a1 w0 w1 W).mono fun e W' ⟨he, hg⟩ => ?_
  subst he
  exact ⟨_, rfl, post_of_same (pa := []) (pv := []) hW' (fun _ _ _ => (trodAll_cons_mk (shut_bool Try.underlying4 _) trodAll_mk0)) (fun sp _ => (trodAll_cons_mk (shut_int Try.underlying24 w0) (trodAll_cons_mk (shut_int Try.underlying24 w1) trodAll_mk0))) (fun _ _ => rfl) rfl
    (hg.frame _) hg.2.1 (ok_one (by kernel_rfl) rfl (okWide_bool_mk Try.underlying4 _))⟩

theorem over : Rows.fnLess16IsRow.holds Try.pinned (OpenSpec.ofChange Rows.fnLess16IsSpec) :=
  OpenClaim.holds_of_wide 4 Try.f4 rfl rfl rfl rfl rfl rfl rfl ⟨rfl, rfl, rfl, rfl, rfl⟩ rfl rfl rfl rfl rfl (by kernel_rfl) Try.func4 (by kernel_rfl)
    (of_decide_eq_true (by kernel_rfl)) (by unfold Func.isWrapper; first | (rw [if_pos (by decide +kernel)]; kernel_rfl) | (rw [if_neg (by decide +kernel)]; exact ⟨rfl, rfl⟩))
    (fun os started H enc _ => lifted os started H enc)

theorem proved : Rows.FnLess16IsSaid :=
  over
#print axioms proved
end Go.Proofs.Ytnaihmmfnffejaa.fnLess16Is
