/- Contracts of the reference's Init, InitText and InitOf. Conditions: kinds of parameters, the last has a value, bounds on numbers and lengths. -/
import Derived.Test.YtokkhfjlbnochaaDoorInr
import Derived.Test.YtokkhfjlbnochaaDoorInq
namespace Go.Proofs.YtokkhfjlbnochaaDoor
open Go.RowKit Go.Lib

/-- What the reference allows, in the words of the walks. -/
structure IGood (tag win out inn tsn : Nat) (ps : List Pm) : Prop where
  ok : IOk tag win out inn tsn
  kinds : ∀ p ∈ ps, ∃ ty : Nat, p.ty = (ty : Int) ∧ OkK ty p.l
  fit : ∀ p ∈ ps, Fit p
  few : ps.length ≤ 20
  len : (kflat (ps.map Pm.c)).length ≤ 60000
  last : ∀ d, (ps.map Pm.c)[(ps.map Pm.c).length - 1]? = some d → 0 < d.2.length

set_option maxRecDepth 20000 in
set_option maxHeartbeats 1600000 in
theorem specinit_any (ack : Bool) (tag win out inn tsn : Nat) (A : Option Addr) (n c : Nat) (ps : List Pm) (w : World) (h : Rd w 2 n (.slice A n c) (pms .i64 ps)) (hn : n = ps.length) (ha : PAll ps w) (hq : IGood tag win out inn tsn ps) (ty0 : Nat) (hty0 : ty0 = if ack then 2 else 1) :
    Calls Tryd.prog 8 #[.agg #[.bool ack, .int .u32 (tag : Int), .int .u32 (win : Int), .int .i64 (out : Int), .int .i64 (inn : Int), .int .u32 (tsn : Int), .slice A n c]] w (RetSl w (chunk ty0 0 (ihead tag win out inn tsn ++ kflat (ps.map Pm.c)))) := by
  have hg := Row.new w 25 #[.bool ack, .int .u32 (tag : Int), .int .u32 (win : Int), .int .i64 (out : Int), .int .i64 (inn : Int), .int .u32 (tsn : Int), .slice A n c]
  have hba := (Below.refl w.heap.size w).alloc (Nat.le_refl _) (.cells #[.bool ack, .int .u32 (tag : Int), .int .u32 (win : Int), .int .i64 (out : Int), .int .i64 (inn : Int), .int .u32 (tsn : Int), .slice A n c] 25)
  have hH := h.alloc (.cells #[.bool ack, .int .u32 (tag : Int), .int .u32 (win : Int), .int .i64 (out : Int), .int .i64 (inn : Int), .int .u32 (tsn : Int), .slice A n c] 25)
  have hA := ha.alloc (.cells #[.bool ack, .int .u32 (tag : Int), .int .u32 (win : Int), .int .i64 (out : Int), .int .i64 (inn : Int), .int .u32 (tsn : Int), .slice A n c] 25)
  obtain ⟨z, hz⟩ : ∃ z : Int, z = if ack then 1 else 0 := ⟨_, rfl⟩
  have hz1 : 1 + z = (ty0 : Int) := by subst hz; subst hty0; cases ack <;> rfl
  have hz2 : 0 ≤ z ∧ z ≤ 1 := by subst hz; cases ack <;> simp
  have hzw : IntKind.i64.wrap (1 + z) = (ty0 : Int) := by rw [hz1]; simp [IntKind.wrap, IntKind.bits, IntKind.signed]; omega
  have hty1 : ty0 ≤ 2 := by omega
  obtain ⟨b1, b2, b3, b4, b5⟩ := hq.ok
  have Hq := Lib.hid hq
  have Hz := Lib.hid hz
  have Hn := Lib.hid hn
  clear h ha hn hz hz1 hty0 hz2
  go_enter Tryd.func8, Tryd.ntmps8
  go_wp2_with fail
  refine (kflag_any ack _ z Hz.out).mono ?_
  rintro e w' ⟨rfl, rfl⟩
  go_upto_region 2 with fail
  generalize w.alloc (.cells #[.bool ack, .int .u32 (tag : Int), .int .u32 (win : Int), .int .i64 (out : Int), .int .i64 (inn : Int), .int .u32 (tsn : Int), .slice A n c] 25) = W at hg hba hH hA ⊢
  generalize hGG : w.heap.size = G at hg ⊢
  have HGG := Lib.hid hGG
  have hk := Row.seven (w := W.drew) hg
  have Hg := Lib.hid hg
  have Hba := Lib.hid hba
  have HH := Lib.hid hH
  have HA := Lib.hid hA
  have t1 : IntKind.i64.wrap (tag : Int) = (tag : Int) := by simp [IntKind.wrap, IntKind.bits, IntKind.signed]; omega
  have t2 : IntKind.i64.wrap (win : Int) = (win : Int) := by simp [IntKind.wrap, IntKind.bits, IntKind.signed]; omega
  have t3 : IntKind.i64.wrap (tsn : Int) = (tsn : Int) := by simp [IntKind.wrap, IntKind.bits, IntKind.signed]; omega
  clear hg hba hGG hH hA hzw
  go_region_held3 (fun w' => w'.cell? ⟨G, 0, none⟩ = some (.bool ack) ∧ w'.cell? ⟨G, 1, none⟩ = some (.int .u32 (tag : Int)) ∧ w'.cell? ⟨G, 2, none⟩ = some (.int .u32 (win : Int)) ∧ w'.cell? ⟨G, 3, none⟩ = some (.int .i64 (out : Int)) ∧ w'.cell? ⟨G, 4, none⟩ = some (.int .i64 (inn : Int)) ∧ w'.cell? ⟨G, 5, none⟩ = some (.int .u32 (tsn : Int)) ∧ w'.cell? ⟨G, 6, none⟩ = some (.slice A n c)) (first | (with_reducible exact hk) | (with_reducible exact k1) | (with_reducible exact k2) | (with_reducible exact k3) | (with_reducible exact k4) | (with_reducible exact k5) | (with_reducible exact k6) | (with_reducible exact k7) | (with_reducible exact k8) | exact Row.seven (Row.alloc G6.out _))
    (first
      | (go_at_call_of 19 (Value.int IntKind.i64 (tag : Int)); refine (number_any (tag : Int) 4 _ (by omega) (by omega) (by omega) (by omega)).mono ?_; rintro z w1 ⟨A1, n1, c1, rfl, hs1, hb1⟩; have Q1 := Lib.hid hs1; have B1 := Lib.hid hb1; have g1 := Hg.out.drew.below hb1 Hg.out.drew.lt; have G1 := Lib.hid g1; have k1 := g1.seven; clear g1 hs1 hb1)
      | (go_at_call_of 19 (Value.int IntKind.i64 (win : Int)); refine (number_any (win : Int) 4 _ (by omega) (by omega) (by omega) (by omega)).mono ?_; rintro z w2 ⟨A2, n2, c2, rfl, hs2, hb2⟩; have Q2 := Lib.hid hs2; have B2 := Lib.hid hb2; have g2 := G1.out.below hb2 G1.out.lt; have G2 := Lib.hid g2; have k2 := g2.seven; clear g2 hs2 hb2)
      | (go_at_call_of 19 (Value.int IntKind.i64 (out : Int)); refine (number_any (out : Int) 2 _ (by omega) (by omega) (by omega) (by omega)).mono ?_; rintro z w3 ⟨A3, n3, c3, rfl, hs3, hb3⟩; have Q3 := Lib.hid hs3; have B3 := Lib.hid hb3; have g3 := G2.out.below hb3 G2.out.lt; have G3 := Lib.hid g3; have k3 := g3.seven; clear g3 hs3 hb3)
      | (go_at_call_of 19 (Value.int IntKind.i64 (inn : Int)); refine (number_any (inn : Int) 2 _ (by omega) (by omega) (by omega) (by omega)).mono ?_; rintro z w4 ⟨A4, n4, c4, rfl, hs4, hb4⟩; have Q4 := Lib.hid hs4; have B4 := Lib.hid hb4; have g4 := G3.out.below hb4 G3.out.lt; have G4 := Lib.hid g4; have k4 := g4.seven; clear g4 hs4 hb4)
      | (go_at_call_of 19 (Value.int IntKind.i64 (tsn : Int)); refine (number_any (tsn : Int) 4 _ (by omega) (by omega) (by omega) (by omega)).mono ?_; rintro z w5 ⟨A5, n5, c5, rfl, hs5, hb5⟩; have Q5 := Lib.hid hs5; have B5 := Lib.hid hb5; have g5 := G4.out.below hb5 G4.out.lt; have G5 := Lib.hid g5; have k5 := g5.seven; clear g5 hs5 hb5)
      | (go_at_call 20; refine (specparams_any _ ps _ (by rw [← Hn.out]; exact ((((HH.out.drew.below B1.out).below B2.out).below B3.out).below B4.out).below B5.out) (((((HA.out.below (w' := W.drew) (below_drewN (Below.refl _ _) 1)).below B1.out).below B2.out).below B3.out).below B4.out |>.below B5.out) (by have := Hq.out.few; omega) Hq.out.fit Hq.out.len).mono ?_; rintro z w6 ⟨A6, n6, c6, rfl, hs6, hb6⟩; have Q6 := Lib.hid hs6; have B6 := Lib.hid hb6; have g6 := G5.out.below hb6 G5.out.lt; have G6 := Lib.hid g6; have k6 := g6.seven; clear g6 hs6 hb6)
      | (go_at_call 18; refine (joined_any _ [.slice A1 n1 c1, .slice A2 n2 c2, .slice A3 n3 c3, .slice A4 n4 c4, .slice A5 n5 c5, .slice A6 n6 c6] [be (Int.toNat 4) (tag : Int).toNat, be (Int.toNat 4) (win : Int).toNat, be (Int.toNat 2) (out : Int).toNat, be (Int.toNat 2) (inn : Int).toNat, be (Int.toNat 4) (tsn : Int).toNat, kflat (ps.map Pm.c)] _ (Rd.lit w6 27 [.slice A1 n1 c1, .slice A2 n2 c2, .slice A3 n3 c3, .slice A4 n4 c4, .slice A5 n5 c5, .slice A6 n6 c6] 6 rfl (by omega)) (.cons ((((((Q1.out.below B2.out).below B3.out).below B4.out).below B5.out).below B6.out).alloc _) (.cons (((((Q2.out.below B3.out).below B4.out).below B5.out).below B6.out).alloc _) (.cons ((((Q3.out.below B4.out).below B5.out).below B6.out).alloc _) (.cons (((Q4.out.below B5.out).below B6.out).alloc _) (.cons ((Q5.out.below B6.out).alloc _) (.cons (Q6.out.alloc _) (Sls.nil _))))))) (by have := Hq.out.len; simp [be_length]; omega) (by simp)).mono ?_; rintro z w7 ⟨A7, n7, c7, rfl, hs7, hb7⟩; have Q7 := Lib.hid hs7; have B7 := Lib.hid hb7; have g7 := (G6.out.alloc _).below hb7 (G6.out.alloc _).lt; have G7 := Lib.hid g7; have k7 := g7.seven; clear g7 hs7 hb7)
      | (go_at_call 17; refine (chunk_any (ty0 : Int) 0 _ _ _ (by omega) (by omega) (by omega) (by omega) Q7.out (by have := Hq.out.len; simp [be_length]; omega)).mono ?_; rintro z w8 ⟨A8, n8, c8, rfl, hs8, hb8⟩; have Q8 := Lib.hid hs8; have B8 := Lib.hid hb8; have g8 := G7.out.below hb8 G7.out.lt; have k8 := g8.seven; clear g8 hs8 hb8))
  have d0 := Hba.out.drew
  have d1 := below_step d0 d0.size B1.out
  have d2 := below_step d1 d1.size B2.out
  have d3 := below_step d2 d2.size B3.out
  have d4 := below_step d3 d3.size B4.out
  have d5 := below_step d4 d4.size B5.out
  have d6 := below_step d5 d5.size B6.out
  have d6a := d6.alloc d6.size (.cells [.slice A1 n1 c1, .slice A2 n2 c2, .slice A3 n3 c3, .slice A4 n4 c4, .slice A5 n5 c5, .slice A6 n6 c6].toArray 27)
  have d7 := below_step d6a d6a.size B7.out
  have D8 := Lib.hid (below_step d7 d7.size B8.out)
  have e0 : [be (Int.toNat 4) (tag : Int).toNat, be (Int.toNat 4) (win : Int).toNat, be (Int.toNat 2) (out : Int).toNat, be (Int.toNat 2) (inn : Int).toNat, be (Int.toNat 4) (tsn : Int).toNat, kflat (ps.map Pm.c)].flatten = ihead tag win out inn tsn ++ kflat (ps.map Pm.c) := by
    simp [ihead]
  have S8 := Q8.out
  rw [e0, Int.toNat_natCast] at S8
  have HS8 := Lib.hid S8
  clear hk k1 k2 k3 k4 k5 k6 k7 k8 d0 d1 d2 d3 d4 d5 d6 d6a d7 e0 S8 t1 t2 t3
  go_wp2
  go_ret
  exact ⟨A8, n8, c8, rfl, HS8.out, D8.out⟩
end Go.Proofs.YtokkhfjlbnochaaDoor
