/- The contract of push at a number that is new. Condition: the numbers are at most 1000 behind the first. -/
import Derived.Test.YtbmnpadpjbcljaaDoorRvQ
namespace Go.Proofs.YtbmnpadpjbcljaaDoor
open Go.RowKit Go.Lib

/-- What push leaves where the number is new. -/
def Pushed (first c top n gq gm d : Nat) (f : Nat → Bool) (du : Value) (t tm : TypeId) (w : World) (e : Ending) (w' : World) : Prop :=
  e = .returned (.bool true) ∧ ∃ ws', Row w' gq t (qcells first c (max top d) (n + 1) gm du) ∧ Row w' gm tm (u64s ws') ∧ MaskOk first ws' (upd f d true) ∧ ∃ w1, w.grownBy w1 (some gm) ∧ w1.grownBy w' (some gq)

theorem bit_or {x o : Nat} (hx : x < 18446744073709551616) (ho : o < 64) : bits BinOp.or IntKind.u64 (x : Int) (IntKind.u64.wrap (2 ^ o)) = ((x ||| 2 ^ o : Nat) : Int) := by
  have h : 2 ^ o < 2 ^ 64 := Nat.pow_lt_pow_right (by decide) ho
  rw [wrap_pow ho]
  generalize 2 ^ o = p at h ⊢
  rw [bits_or_u64_nat x _ hx (by omega)]

set_option maxRecDepth 20000 in
set_option maxHeartbeats 800000 in
theorem push_new (first c top n gq gm d : Nat) (f : Nat → Bool) (du : Value) (ws : List Nat) (t tm : TypeId) (w : World) (hf : first < 4294967296) (hr : Row w gq t (qcells first c top n gm du)) (hm : Row w gm tm (u64s ws)) (hk : MaskOk first ws f) (hq : QF c top n f) (h1 : 1 ≤ d) (h2 : d ≤ 1000) (hne : gq ≠ gm)
    (hnew : c < d) (hfd : f d = false) :
    Calls Tryd.prog 11 #[.pointer (some ⟨gq, 0, none⟩), .int .u32 (tsnOf first d : Nat)] w (Pushed first c top n gq gm d f du t tm w) := by
  have hc := hq.c
  have htop := hq.top
  have hn1 : n ≤ 1001 := by rw [hq.n]; exact cnt_le f
  have C1 := Lib.hid (sna32GT_near first d (c + 40000) w.drew hf (by omega) (by omega))
  rw [decide_eq_false (by omega)] at C1
  have C2 := Lib.hid (sna32LTE_near first d c w.drew hf (by omega) (by omega))
  rw [decide_eq_false (by omega)] at C2
  have C3 := Lib.hid (haschunk_any first c top n gq gm d f du ws t tm w.drew hf hr.drew hm.drew hk hq h1 (by omega))
  rw [hfd] at C3
  have k0 : w.cell? ⟨gq, 0, none⟩ = some (.int .u32 (tsnOf first top : Nat)) := by rw [hr.cell]; rfl
  have k1 : w.cell? ⟨gq, 1, none⟩ = some (.int .i64 (n : Int)) := by rw [hr.cell]; rfl
  have k2 : w.cell? ⟨gq, 2, none⟩ = some (.slice (some ⟨gm, 0, none⟩) 625 625) := by rw [hr.cell]; rfl
  have k4 : w.cell? ⟨gq, 4, none⟩ = some (.int .u32 40000) := by rw [hr.cell]; rfl
  have k5 : w.cell? ⟨gq, 5, none⟩ = some (.int .u32 (tsnOf first c : Nat)) := by rw [hr.cell]; rfl
  obtain ⟨hw, hx⟩ := hk.word (tsnOf first d)
  have kw : w.cell? ⟨gm, wix (tsnOf first d), none⟩ = some (.int .u64 (ws.getD (wix (tsnOf first d)) 0 : Nat)) := by rw [hm.cell]; exact u64s_get hw
  have fw := hm.frozen (wix (tsnOf first d))
  have hset : MaskOk first _ (upd f d true) := hk.set hf (d := d) (by omega)
  have hi := wix_lt (tsnOf first d)
  have ho := wof_lt (tsnOf first d)
  have ht := tsnOf_lt first d
  have hne' : ¬ gm = gq := fun e => hne e.symm
  have f0 := hr.frozen 0
  have f1 := hr.frozen 1
  have hw1 : IntKind.i64.wrap ((n : Int) + 1) = ((n + 1 : Nat) : Int) := by simp [IntKind.wrap, IntKind.bits, IntKind.signed]; omega
  have e1 : ((tsnOf first d : Nat) : Int) / 64 % 625 = (wix (tsnOf first d) : Nat) := by unfold wix; omega
  have e2 : ((tsnOf first d : Nat) : Int) % 64 = (wof (tsnOf first d) : Nat) := by unfold wof; omega
  have i1 : ((wix (tsnOf first d) : Nat) : Int) < 625 := by omega
  have hs := qfar (first := first) (c := c)
  have Hset := Lib.hid hset
  have Hm := Lib.hid hm
  have Hr := Lib.hid hr
  have hv := bit_or hx ho
  generalize ws.getD (wix (tsnOf first d)) 0 = x at kw hx Hset hv
  generalize wix (tsnOf first d) = i at kw fw hi e1 Hset i1
  generalize wof (tsnOf first d) = o at ho e2 Hset hv
  generalize tsnOf first (c + 40000) = tf at C1 hs
  clear hr hm hk hset hw hfd
  by_cases hdt : top < d
  · have hmax : max top d = d := by omega
    go_enter Tryd.func11, Tryd.ntmps11
    go_wp2_with fail
    refine wp_region_tail 10 (by kernel_rfl) (by kernel_rfl) ?_
    simp only [List.take_succ_cons, List.take_zero, List.drop_succ_cons, List.drop_zero]
    repeat still_step
    refine wpStill_nil ?_
    go_wp2_with fail
    refine C1.out.mono ?_
    rintro e w' ⟨rfl, rfl⟩
    go_wp2_with fail
    refine C2.out.mono ?_
    rintro e w' ⟨rfl, rfl⟩
    go_wp2_with fail
    refine C3.out.mono ?_
    rintro e w' ⟨rfl, rfl⟩
    go_wp2_with fail
    refine (sna32GT_near first d top _ hf (by omega) (by omega)).mono ?_
    rintro e w' ⟨rfl, rfl⟩
    rw [decide_eq_true hdt]
    go_wp2
    go_ret
    have hM := (Hm.out.set i (.int .u64 ((x ||| 2 ^ o : Nat) : Int)))
    rw [u64s_set] at hM
    have hg1 : w.grownBy (w.setCell ⟨gm, i, none⟩ (.int .u64 ((x ||| 2 ^ o : Nat) : Int))) (some gm) := only_set (only_refl _ _) i _
    have hR := ((Hr.out.far (p := ⟨gm, i, none⟩) hne (.int .u64 ((x ||| 2 ^ o : Nat) : Int))).set 1 (.int .i64 ((n : Int) + 1))).set 0 (.int .u32 (tsnOf first d : Nat))
    refine ⟨rfl, ws.set i (x ||| 2 ^ o), ?_, ((hM.far (p := ⟨gq, 1, none⟩) hne' _).far (p := ⟨gq, 0, none⟩) hne' _).drew, Hset.out, _, hg1, only_drew (only_set (only_set (only_refl _ _) 1 _) 0 _)⟩
    unfold qcells at hR ⊢
    rw [hmax]
    exact hR.drew
  · have hmax : max top d = top := by omega
    go_enter Tryd.func11, Tryd.ntmps11
    go_wp2_with fail
    refine wp_region_tail 10 (by kernel_rfl) (by kernel_rfl) ?_
    simp only [List.take_succ_cons, List.take_zero, List.drop_succ_cons, List.drop_zero]
    repeat still_step
    refine wpStill_nil ?_
    go_wp2_with fail
    refine C1.out.mono ?_
    rintro e w' ⟨rfl, rfl⟩
    go_wp2_with fail
    refine C2.out.mono ?_
    rintro e w' ⟨rfl, rfl⟩
    go_wp2_with fail
    refine C3.out.mono ?_
    rintro e w' ⟨rfl, rfl⟩
    go_wp2_with fail
    refine (sna32GT_near first d top _ hf (by omega) (by omega)).mono ?_
    rintro e w' ⟨rfl, rfl⟩
    rw [decide_eq_false hdt]
    go_wp2
    go_ret
    have hM := (Hm.out.set i (.int .u64 ((x ||| 2 ^ o : Nat) : Int)))
    rw [u64s_set] at hM
    have hg1 : w.grownBy (w.setCell ⟨gm, i, none⟩ (.int .u64 ((x ||| 2 ^ o : Nat) : Int))) (some gm) := only_set (only_refl _ _) i _
    have hR := ((Hr.out.far (p := ⟨gm, i, none⟩) hne (.int .u64 ((x ||| 2 ^ o : Nat) : Int))).set 1 (.int .i64 ((n : Int) + 1)))
    refine ⟨rfl, ws.set i (x ||| 2 ^ o), ?_, ((hM.far (p := ⟨gq, 1, none⟩) hne' _)).drew, Hset.out, _, hg1, only_drew (only_set (only_refl _ _) 1 _)⟩
    unfold qcells at hR ⊢
    rw [hmax]
    exact hR.drew
end Go.Proofs.YtbmnpadpjbcljaaDoor
