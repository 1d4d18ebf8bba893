/- The law FnInitIs returns true for every input and changes nothing that was there: its row, and the card that ties the listed variables to the text. No condition but the listed variables. -/
import Derived.Test.YtokkhfjlbnochaaDoorIny
import Derived.Test.YtokkhfjlbnochaaDoorCardI
namespace Go.Proofs.YtokkhfjlbnochaaDoor.fnInitIs
open Go.ChangeShapes Go.WideShapes Go.ChangeAt Go.RowKit

theorem door_met (os : Os) (args : Array Value) : laidMetH Tryd.prog Rows.fnInitIsRow.laid ((World.doorLaid Tryd.prog 4000 os).forCall (fun _ _ => 0) ⟨#[], args, []⟩).memory :=
  laidMetH_of_parts3 (fuel := 8) (laidMet_of_run' 8 (by kernel_rfl) (by kernel_rfl)) (by kernel_rfl) (by kernel_rfl)

theorem trodVars_len {H : Type} {enc : TypeId × Value → H} {P : Program} {W : World} {sp : Nat → Bool} :
    ∀ {ns : List String} {gs : List (DataW H)} {ps : List MemPlace}, DataW.TrodVars enc P W sp ns gs ps → gs.length = ns.length
  | [], [], _, _ => rfl
  | [], _ :: _, _, h => h.elim
  | _ :: _, [], _, h => h.elim
  | _ :: _, _ :: _, _, ⟨_, _, _, _, _, _, _, _, _, _, hs, _⟩ => congrArg (· + 1) (trodVars_len hs)
theorem len_succ {α : Type} {l : List α} {n : Nat} (h : l.length = n + 1) : ∃ a r, l = a :: r ∧ r.length = n := by
  cases l with
  | nil => cases h
  | cons a r => exact ⟨a, r, rfl, by simpa using h⟩

set_option maxRecDepth 100000 in
theorem lifted (os : Os) (started : os.Started) (H : Type) (enc : TypeId × Value → H) :
    ReturnsInHanded {} Tryd.checked os 3 .any (fun w args => (Rows.fnInitIsSpec.pre enc Tryd.prog Tryd.f3 [] false w args ∧ laidMetH Tryd.prog Rows.fnInitIsRow.laid w) ∧ sizedMet enc Tryd.prog Tryd.f3 (OpenSpec.ofChange Rows.fnInitIsSpec) false w args)
      (Rows.fnInitIsSpec.post enc Tryd.prog Tryd.f3 false true false false) := by
  refine returnsInHanded_of_change_and (C := Tryd.checked) (X := fun w _ => laidMetH Tryd.prog Rows.fnInitIsRow.laid w) (fun _ _ _ hh h => h.of_heap hh) own started (by kernel_rfl) Tryd.func3
    (ChangeSpec.witness_shaped (enc := enc) (C := Tryd.checked) (os := os) (X := fun w _ => laidMetH Tryd.prog Rows.fnInitIsRow.laid w) false (World.doorLaid Tryd.prog 4000 os) #[.agg #[.bool false, .int .u32 0, .int .u32 0, .int .i64 0, .int .i64 0, .int .u32 0, .slice none 0 0]] 8 rfl (World.shaped_of_RefB (by kernel_rfl) (by kernel_rfl)) (by kernel_rfl) (by kernel_rfl) (by kernel_rfl) (door_met os _)) ?_
  intro W base args ds gs before hval0 hW _ _ hL _
  have hval : ∀ (j : Nat) t v, Tryd.f3.params[j]? = some t → args[j]? = some v → Value.okWide Tryd.prog W .any base t v := hval0
  have hW' := hW
  obtain ⟨p, q, hA0, hV, rfl, hfz, hnd⟩ := hW
  have hA : DataW.TrodAll enc Tryd.prog W 0 (fun _ => true) true Tryd.f3.params.toList args.toList ds p := hA0
  rw [Tryd.params3] at hA hval
  obtain ⟨v0, vs0, d0, ds0, p0, q0, hargs, rfl, rfl, h0, r0⟩ := trodAll_cons hA
  obtain ⟨rfl, rfl, rfl⟩ := trodAll_nil r0
  obtain rfl : args = #[v0] := by cases args; simp_all
  have k0 := h0
  have lt0 : ∀ x ∈ p0, x.block < W.heap.size := by obtain ⟨m, hm⟩ := k0; exact DataW.trod_lt m _ _ _ hm
  obtain ⟨ack, tag, win, out, inn, tsn, A0, c0, l0, rfl, w0, u0, z1, z2, z3⟩ := open_init (hval 0 25 v0 rfl rfl) h0
  have hlen0 : gs.length = 27 := trodVars_len hV
  clear hA0 hval0
  obtain ⟨g1, r_1, rfl, hlen1⟩ := len_succ hlen0
  obtain ⟨g2, r_2, rfl, hlen2⟩ := len_succ hlen1
  obtain ⟨g3, r_3, rfl, hlen3⟩ := len_succ hlen2
  obtain ⟨g4, r_4, rfl, hlen4⟩ := len_succ hlen3
  obtain ⟨g5, r_5, rfl, hlen5⟩ := len_succ hlen4
  obtain ⟨g6, r_6, rfl, hlen6⟩ := len_succ hlen5
  obtain ⟨g7, r_7, rfl, hlen7⟩ := len_succ hlen6
  obtain ⟨g8, r_8, rfl, hlen8⟩ := len_succ hlen7
  obtain ⟨g9, r_9, rfl, hlen9⟩ := len_succ hlen8
  obtain ⟨g10, r_10, rfl, hlen10⟩ := len_succ hlen9
  obtain ⟨g11, r_11, rfl, hlen11⟩ := len_succ hlen10
  obtain ⟨g12, r_12, rfl, hlen12⟩ := len_succ hlen11
  obtain ⟨g13, r_13, rfl, hlen13⟩ := len_succ hlen12
  obtain ⟨g14, r_14, rfl, hlen14⟩ := len_succ hlen13
  obtain ⟨g15, r_15, rfl, hlen15⟩ := len_succ hlen14
  obtain ⟨g16, r_16, rfl, hlen16⟩ := len_succ hlen15
  obtain ⟨g17, r_17, rfl, hlen17⟩ := len_succ hlen16
  obtain ⟨g18, r_18, rfl, hlen18⟩ := len_succ hlen17
  obtain ⟨g19, r_19, rfl, hlen19⟩ := len_succ hlen18
  obtain ⟨g20, r_20, rfl, hlen20⟩ := len_succ hlen19
  obtain ⟨g21, r_21, rfl, hlen21⟩ := len_succ hlen20
  obtain ⟨g22, r_22, rfl, hlen22⟩ := len_succ hlen21
  obtain ⟨g23, r_23, rfl, hlen23⟩ := len_succ hlen22
  obtain ⟨g24, r_24, rfl, hlen24⟩ := len_succ hlen23
  obtain ⟨g25, r_25, rfl, hlen25⟩ := len_succ hlen24
  obtain ⟨g26, r_26, rfl, hlen26⟩ := len_succ hlen25
  obtain ⟨g27, r_27, rfl, hlen27⟩ := len_succ hlen26
  obtain rfl := List.length_eq_zero_iff.1 hlen27
  refine (fnInitIs_walk ack tag win out inn tsn A0 l0.length c0 l0 W w0 rfl u0 z1 z2 z3).mono fun e W' ⟨he, bel⟩ => ?_
  subst he
  exact ⟨_, rfl, _, _, _, [], _, _, hW', trodAll_mk1 (shut_bool Tryd.underlying4 _), (trodAll_cons_mk (Below.trod laidOut (by kernel_rfl) (of_decide_eq_true (by kernel_rfl)) k0 bel lt0) trodAll_mk0), trodVars_ifaces bel (by kernel_rfl) hV, bel.frame _, fun h => by cases h⟩

theorem said : Rows.FnInitIsSaid :=
  OpenClaim.holds_of_wide 3 Tryd.f3 rfl rfl rfl rfl rfl rfl rfl ⟨rfl, rfl, rfl, rfl, rfl⟩ rfl rfl rfl rfl rfl (by kernel_rfl) Tryd.func3 (by kernel_rfl)
    (of_decide_eq_true (by kernel_rfl)) (by unfold Func.isWrapper; first | (rw [if_pos (by decide +kernel)]; kernel_rfl) | (rw [if_neg (by decide +kernel)]; exact ⟨rfl, rfl⟩))
    (fun os started H enc _ => lifted os started H enc)

theorem plain (f : FuncId) (fn : Func) (hf : Tryd.pinned.checked.prog.funcNamed "loop.example/pub-g03037/laws.FnInitIs" = some f) (hfn : Tryd.pinned.checked.prog.funcs[f]? = some fn) :
    false = Tryd.pinned.checked.prog.looks [] ∧ ∀ (j : Nat) t, fn.params[j]? = some t → Tryd.pinned.checked.prog.wantsStandIn t = false := by
  obtain rfl : f = 3 := Option.some.inj ((show Tryd.prog.funcNamed "loop.example/pub-g03037/laws.FnInitIs" = some 3 by kernel_rfl).symm.trans hf) |>.symm
  obtain rfl : fn = Tryd.f3 := (Option.some.inj (Tryd.func3.symm.trans hfn)).symm
  refine ⟨by kernel_rfl, fun j t ht => ?_⟩
  rw [Tryd.params3] at ht
  have hm : t ∈ [25] := by simpa using Array.mem_of_getElem? ht
  have hall : ([25].all fun u => !Tryd.prog.wantsStandIn u) = true := by kernel_rfl
  exact (show Tryd.prog.wantsStandIn t = false by simpa using List.all_eq_true.1 hall t (by simpa using hm))

theorem card : Rows.FnInitIsCardSaid :=
  Claim7.holds_tied_plain_at .later [] _ _ _ _ said (fun _ h => by cases h) (by kernel_rfl) (fun _ h => by cases h) fnInitIs_row_tie rfl ⟨rfl, rfl⟩ (by kernel_rfl) rfl plain (by kernel_rfl)
#print axioms card
end Go.Proofs.YtokkhfjlbnochaaDoor.fnInitIs
