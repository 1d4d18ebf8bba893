/- The contract of pop. Condition: the numbers are at most 1000 behind the first. -/
import Derived.Test.YtbmnpadpjbcljaaDoorRvH
namespace Go.Proofs.YtbmnpadpjbcljaaDoor
open Go.RowKit Go.Lib

/-- f turned at one number. -/
def upd (f : Nat → Bool) (d : Nat) (b : Bool) : Nat → Bool := fun e => if e = d then b else f e

theorem qstep {first c : Nat} : IntKind.u32.wrap (((tsnOf first c : Nat) : Int) + 1) = (tsnOf first (c + 1) : Nat) := by
  have e : tsnOf first (c + 1) = (tsnOf first c + 1) % 4294967296 := by unfold tsnOf; omega
  rw [e]
  simp [IntKind.wrap, IntKind.bits, IntKind.signed]

set_option maxRecDepth 20000 in
theorem pop_no (first c top n gq gm : Nat) (f : Nat → Bool) (du : Value) (ws : List Nat) (t tm : TypeId) (w : World) (hf : first < 4294967296) (hr : Row w gq t (qcells first c top n gm du)) (hm : Row w gm tm (u64s ws)) (hk : MaskOk first ws f) (hq : QF c top n f) (hno : f (c + 1) = false) :
    Calls Tryd.prog 12 #[.pointer (some ⟨gq, 0, none⟩), .bool false] w fun e w' => e = .returned (.bool false) ∧ w = w' := by
  have hc := hq.c
  have C := Lib.hid (haschunk_any first c top n gq gm (c + 1) f du ws t tm w hf hr hm hk hq (by omega) (by omega))
  rw [hno] at C
  have k5 : w.cell? ⟨gq, 5, none⟩ = some (.int .u32 (tsnOf first c : Nat)) := by rw [hr.cell]; rfl
  have hs := qstep (first := first) (c := c)
  clear hr hm hk hq hno
  generalize tsnOf first (c + 1) = td at C hs
  go_enter Tryd.func12, Tryd.ntmps12
  go_wp2_with fail
  refine C.out.mono ?_
  rintro e w' ⟨rfl, rfl⟩
  go_wp2
  go_ret
  exact ⟨rfl, rfl⟩

/-- What pop leaves where it took one off. -/
def Popped (first c top n gq gm : Nat) (f : Nat → Bool) (du : Value) (t tm : TypeId) (w : World) (e : Ending) (w' : World) : Prop :=
  e = .returned (.bool true) ∧ ∃ ws', Row w' gq t (qcells first (c + 1) top (n - 1) gm du) ∧ Row w' gm tm (u64s ws') ∧ MaskOk first ws' (upd f (c + 1) false) ∧ ∃ w1, w.grownBy w1 (some gm) ∧ w1.grownBy w' (some gq)

set_option maxRecDepth 20000 in
theorem pop_yes (first c top n gq gm : Nat) (f : Nat → Bool) (du : Value) (ws : List Nat) (t tm : TypeId) (w : World) (hf : first < 4294967296) (hr : Row w gq t (qcells first c top n gm du)) (hm : Row w gm tm (u64s ws)) (hk : MaskOk first ws f) (hq : QF c top n f) (hyes : f (c + 1) = true) (hne : gq ≠ gm) :
    Calls Tryd.prog 12 #[.pointer (some ⟨gq, 0, none⟩), .bool false] w (Popped first c top n gq gm f du t tm w) := by
  have htop := hq.top
  have hlo := hq.lo _ hyes
  have hnn : 0 < n := by rw [hq.n]; exact cnt_pos (by omega) hyes
  have hn1 : n ≤ 1001 := by rw [hq.n]; exact cnt_le f
  have C := Lib.hid (haschunk_any first c top n gq gm (c + 1) f du ws t tm w hf hr hm hk hq (by omega) (by omega))
  rw [hyes] at C
  obtain ⟨hw, hx⟩ := hk.word (tsnOf first (c + 1))
  have kw : w.cell? ⟨gm, wix (tsnOf first (c + 1)), none⟩ = some (.int .u64 (ws.getD (wix (tsnOf first (c + 1))) 0 : Nat)) := by rw [hm.cell]; exact u64s_get hw
  have fw := hm.frozen (wix (tsnOf first (c + 1)))
  have hclr : MaskOk first _ (upd f (c + 1) false) := hk.clr hf (d := c + 1) (by omega)
  have k1 : w.cell? ⟨gq, 1, none⟩ = some (.int .i64 (n : Int)) := by rw [hr.cell]; rfl
  have k2 : w.cell? ⟨gq, 2, none⟩ = some (.slice (some ⟨gm, 0, none⟩) 625 625) := by rw [hr.cell]; rfl
  have k5 : w.cell? ⟨gq, 5, none⟩ = some (.int .u32 (tsnOf first c : Nat)) := by rw [hr.cell]; rfl
  have hs := qstep (first := first) (c := c)
  have hi := wix_lt (tsnOf first (c + 1))
  have ho := wof_lt (tsnOf first (c + 1))
  have ht := tsnOf_lt first (c + 1)
  have hne' : ¬ gm = gq := fun e => hne e.symm
  have f1 := hr.frozen 1
  have f5 := hr.frozen 5
  have hw1 : IntKind.i64.wrap ((n : Int) - 1) = ((n - 1 : Nat) : Int) := by simp [IntKind.wrap, IntKind.bits, IntKind.signed]; omega
  have e1 : ((tsnOf first (c + 1) : Nat) : Int) / 64 % 625 = (wix (tsnOf first (c + 1)) : Nat) := by unfold wix; omega
  have e2 : ((tsnOf first (c + 1) : Nat) : Int) % 64 = (wof (tsnOf first (c + 1)) : Nat) := by unfold wof; omega
  have Hclr := Lib.hid hclr
  have Hm := Lib.hid hm
  have Hr := Lib.hid hr
  have i1 : ((wix (tsnOf first (c + 1)) : Nat) : Int) < 625 := by omega
  generalize hX : ws.getD (wix (tsnOf first (c + 1))) 0 = x at kw hx Hclr
  generalize hI : wix (tsnOf first (c + 1)) = i at kw fw hi e1 Hclr i1
  generalize hO : wof (tsnOf first (c + 1)) = o at ho e2 Hclr
  generalize hTd : tsnOf first (c + 1) = td at C ht e1 e2 hs
  have Htd := Lib.hid hTd
  clear hr hm hk hq hyes hlo hclr hX hI hO hTd hw
  go_enter Tryd.func12, Tryd.ntmps12
  go_wp2_with fail
  refine C.out.mono ?_
  rintro e w' ⟨rfl, rfl⟩
  go_wp2_with fail
  refine wp_region_tail 12 (by kernel_rfl) (by kernel_rfl) ?_
  simp only [List.take_succ_cons, List.take_zero, List.drop_succ_cons, List.drop_zero]
  repeat still_step
  refine wpStill_nil ?_
  go_wp2
  go_ret
  have hv : bits BinOp.and IntKind.u64 (x : Int) (bits BinOp.xor IntKind.u64 IntKind.u64.max (IntKind.u64.wrap (2 ^ o))) = ((x &&& (18446744073709551615 - 2 ^ o) : Nat) : Int) := by
    have h : 2 ^ o < 2 ^ 64 := Nat.pow_lt_pow_right (by decide) ho
    rw [wrap_pow ho, bits_not_u64 _ h]
    generalize 2 ^ o = p at h ⊢
    rw [bits_and_u64_nat x _ hx (by omega)]
  rw [hv]
  have hM := (Hm.out.set i (.int .u64 ((x &&& (18446744073709551615 - 2 ^ o) : Nat) : Int)))
  rw [u64s_set] at hM
  have hg1 : w.grownBy (w.setCell ⟨gm, i, none⟩ (.int .u64 ((x &&& (18446744073709551615 - 2 ^ o) : Nat) : Int))) (some gm) := only_set (only_refl _ _) i _
  refine ⟨rfl, ws.set i (x &&& (18446744073709551615 - 2 ^ o)), ?_, ((hM.far (p := ⟨gq, 1, none⟩) hne' _).far (p := ⟨gq, 5, none⟩) hne' _).drew, Hclr.out, _, hg1, only_drew (only_set (only_set (only_refl _ _) 1 _) 5 _)⟩
  have hR := (((Hr.out.far (p := ⟨gm, i, none⟩) hne (.int .u64 ((x &&& (18446744073709551615 - 2 ^ o) : Nat) : Int))).set 1 (.int .i64 ((n - 1 : Nat) : Int))).set 5 (.int .u32 (td : Nat)))
  unfold qcells at hR ⊢
  rw [Htd.out]
  exact hR.drew
end Go.Proofs.YtbmnpadpjbcljaaDoor
