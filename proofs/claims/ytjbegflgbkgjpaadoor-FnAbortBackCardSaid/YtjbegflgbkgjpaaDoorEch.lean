/- Contracts of an error cause's header: marshal, unmarshal, its length and code. Conditions: the length fits 16 bits. -/
import Derived.Test.YtjbegflgbkgjpaaDoorCom
namespace Go.Proofs.YtjbegflgbkgjpaaDoor
open Go.RowKit Go.Lib

/-- A parameter or a cause: type, length, value. -/
def tlv (ty : Nat) (l : List UInt8) : List UInt8 := be 2 ty ++ (be 2 (4 + l.length) ++ l)
theorem tlv_length (ty : Nat) (l : List UInt8) : (tlv ty l).length = 4 + l.length := by simp [tlv, be_length]; omega
theorem tlv_put (m ty : Nat) (l : List UInt8) (hm : m = 4 + l.length) : put (put (put (List.replicate m 0) 0 (be 2 ty)) 2 (be 2 m)) 4 l = tlv ty l := by
  have h1 := put_put (List.replicate m 0) 0 (be 2 ty) (be 2 m) (by simp [be_length]; omega)
  have h2 := put_put (List.replicate m 0) 0 (be 2 ty ++ be 2 m) l (by simp [be_length]; omega)
  simp only [List.length_append, be_length, Nat.zero_add] at h1 h2
  rw [h1, h2, put_whole _ _ (by simp [be_length]; omega), hm]
  simp [tlv]

/-- What a cause's marshal hands back and leaves. -/
def RetCm (w : World) (gc : Nat) (t : TypeId) (ty : Nat) (v : Value) (rest : List Value) (l : List UInt8) (e : Ending) (w' : World) : Prop :=
  ∃ A n c, e = .returned (.tuple #[.slice A n c, .nilIface]) ∧ Sl w' (.slice A n c) (tlv ty l) ∧ Row w' gc t (.int .u16 (ty : Int) :: .int .u16 ((4 + l.length : Nat) : Int) :: v :: rest) ∧ w.grownBy w' (some gc) ∧ ∀ g, g < w.heap.size → Far (.slice A n c) g

set_option maxRecDepth 20000 in
theorem echmarshal (gc : Nat) (t : TypeId) (ty : Nat) (c1 : Value) (A : Option Addr) (n c : Nat) (rest : List Value) (l : List UInt8) (w : World) (hr : Row w gc t (.int .u16 (ty : Int) :: c1 :: .slice A n c :: rest)) (hs : Sl w (.slice A n c) l) (hf : 0 < l.length → Far (.slice A n c) gc) (hl : l.length ≤ 65531) (ht : ty ≤ 65535) :
    Calls Tryd.prog 14 #[.pointer (some ⟨gc, 0, none⟩)] w (RetCm w gc t ty (.slice A n c) rest l) := by
  have hn := hs.len
  have k1 : w.cell? ⟨gc, 1, none⟩ = some c1 := by rw [hr.cell]; rfl
  have k2 : w.cell? ⟨gc, 2, none⟩ = some (.slice A n c) := by rw [hr.cell]; rfl
  have f1 := hr.frozen 1
  obtain ⟨m, hm⟩ : ∃ m, m = 4 + n := ⟨_, rfl⟩
  have Hr := Lib.hid hr
  have Hs := Lib.hid hs
  have Hf := Lib.hid hf
  have Hn := Lib.hid hn
  have m4 : 4 ≤ m := by omega
  have mle : m ≤ 65535 := by omega
  have wn : IntKind.u16.wrap (n : Int) = (n : Int) := by simp [IntKind.wrap, IntKind.bits, IntKind.signed]; omega
  have wm : IntKind.u16.wrap ((n : Int) + 4) = (m : Int) := by simp [IntKind.wrap, IntKind.bits, IntKind.signed]; omega
  have Hm := Lib.hid hm
  clear hr hs hf hn hm
  go_enter Tryd.func14, Tryd.ntmps14
  go_wp2_with (at_make; refine wpList_make_row _ rfl _ _ _ rfl bT rfl _ _ _ _ m rfl rfl ?d1 ?d2 ?c1 ?c2 ?_)
  case d1 => first | rfl | omega
  case d2 => first | rfl | omega
  case c1 => omega
  case c2 => unfold maxLen; omega
  intro w1 hrow hb1
  have hG0 : w.grownBy (w.setCell ⟨gc, 1, none⟩ (.int .u16 (m : Int))) (some gc) := only_set (only_refl _ _) 1 _
  have hRw : Row (w.setCell ⟨gc, 1, none⟩ (.int .u16 (m : Int))) gc t (.int .u16 (ty : Int) :: .int .u16 (m : Int) :: .slice A n c :: rest) := Hr.out.set 1 _
  have hSw := Hs.out.only' hG0 Hf.out
  have hgc : gc < (w.setCell ⟨gc, 1, none⟩ (.int .u16 (m : Int))).heap.size := hRw.lt
  have hz : w.heap.size = (w.setCell ⟨gc, 1, none⟩ (.int .u16 (m : Int))).heap.size := by simp [World.setCell]
  rw [hz] at hrow ⊢
  try rw [hz] at hb1
  generalize w.setCell ⟨gc, 1, none⟩ (.int .u16 (m : Int)) = W at hrow hb1 hG0 hRw hSw hgc hz ⊢
  have Hz := Lib.hid hz
  clear hz
  have hrow' : Row w1 W.heap.size 5 (bvs (List.replicate m 0)) := by rw [bvs_zero]; exact hrow
  have hR := hRw.below hb1 hgc
  have k0 : w1.cell? ⟨gc, 0, none⟩ = some (.int .u16 (ty : Int)) := by rw [hR.cell]; rfl
  have k1 : w1.cell? ⟨gc, 1, none⟩ = some (.int .u16 (m : Int)) := by rw [hR.cell]; rfl
  have P0 := Lib.hid (Puts.start hrow')
  have R0 := Lib.hid hR
  have Hb1 := Lib.hid hb1
  have HSW := Lib.hid hSw
  have HG0 := Lib.hid hG0
  have hne : ¬ gc = W.heap.size := by omega
  have c2' : ¬ m = 2 := by omega
  have c0' : ¬ m = 0 := by omega
  have i2 : (2 : Int) ≤ (m : Int) := by omega
  have i4 : (4 : Int) ≤ (m : Int) := by omega
  have t0 : (0 : Int) ≤ (ty : Int) := by omega
  have t1 : (ty : Int) ≤ 65535 := by omega
  have Ht := Lib.hid ht
  clear hrow hrow' hR hb1 k2 f1 hSw hG0 hRw ht
  go_wp2_with fail
  refine wp_region_tail 7 (by kernel_rfl) (by kernel_rfl) ?_
  simp only [List.take_succ_cons, List.take_zero, List.drop_succ_cons, List.drop_zero]
  repeat still_step
  refine wpStill_nil ?_
  go_wp2_with fail
  refine (put16_any _ 0 _ _ _ _ _ w1.drew P0.out.drew.1 (by simp; omega) (by omega) t0 t1).mono ?_
  rintro z w2 ⟨rfl, hP⟩
  have hR := R0.out.drew.grown hP.2 (by intro e; injection e with e; exact hne e)
  have hP := P0.out.drew.trans hP
  rw [Int.toNat_natCast] at hP
  have P1 := Lib.hid hP
  have L1 : Hid ((put (List.replicate m 0) 0 (be 2 ty)).length = m) := Lib.hid (by rw [put_length _ _ _ (by simp [be_length]; omega)]; simp)
  have R1 := Lib.hid hR
  have k1 : w2.cell? ⟨gc, 1, none⟩ = some (.int .u16 (m : Int)) := by rw [hR.cell]; rfl
  clear hP hR k0
  go_wp2_with fail
  refine wp_region_tail 7 (by kernel_rfl) (by kernel_rfl) ?_
  simp only [List.take_succ_cons, List.take_zero, List.drop_succ_cons, List.drop_zero]
  repeat still_step
  refine wpStill_nil ?_
  go_wp2_with fail
  refine (put16_any _ 2 _ _ (m : Int) _ _ w2.drew P1.out.drew.1 (by have := L1.out; omega) (by omega) (by omega) (by omega)).mono ?_
  rintro z w3 ⟨rfl, hP⟩
  have hR := R1.out.drew.grown hP.2 (by intro e; injection e with e; exact hne e)
  have hP := P1.out.drew.trans hP
  rw [Int.toNat_natCast] at hP
  have k3 : w3.cell? ⟨gc, 2, none⟩ = some (.slice A n c) := by rw [hR.cell]; rfl
  have P2 := Lib.hid hP
  have R2 := Lib.hid hR
  have L2 : Hid ((put (put (List.replicate m 0) 0 (be 2 ty)) 2 (be 2 m)).length = m) := Lib.hid (by have := L1.out; rw [put_length _ _ _ (by rw [be_length]; omega)]; exact this)
  have B2 := Lib.hid (below_only Hb1.out Hb1.out.size hP.2 (Nat.le_refl _))
  clear hP hR
  go_wp2_with fail
  refine wp_region_tail 6 (by kernel_rfl) (by kernel_rfl) ?_
  simp only [List.take_succ_cons, List.take_zero, List.drop_succ_cons, List.drop_zero]
  repeat still_step
  refine wpStill_nil ?_
  refine wpList_copy_put rfl _ _ _ _ rfl bT _ _ _ rfl _ rfl W.heap.size 4 _ _ l P2.out.drew.1 (HSW.out.below B2.out).drew ?c3 ?c4 ?c5 ?_
  case c3 => have := Hm.out; have := Hn.out; omega
  case c4 => intro hp; have := Hm.out; have := Hn.out; rw [if_neg (by omega)]
  case c5 => have := L2.out; have := Hm.out; have := Hn.out; omega
  intro w4 hP
  have hR := R2.out.drew.grown hP.2 (by intro e; injection e with e; exact hne e)
  have hP := P2.out.drew.trans hP
  have B4 := below_only Hb1.out Hb1.out.size hP.2 (Nat.le_refl _)
  have hP5 := hP.1
  rw [tlv_put m _ l (by have := Hm.out; have := Hn.out; omega)] at hP5
  have S5 := Lib.hid (hP5.sl (n := m) (c := m) (by rw [tlv_length]; have := Hm.out; have := Hn.out; omega) (Nat.le_refl _) (by unfold maxLen; omega))
  have HG := Lib.hid (only_below HG0.out B4)
  rw [show m = 4 + l.length by have := Hm.out; have := Hn.out; omega] at hR
  have R4 := Lib.hid hR
  clear hP hP5 P0 P1 P2 L1 L2 R0 R1 R2 B2 Hb1 k3 hR B4
  generalize (if m = 4 then (some ⟨W.heap.size, 0, none⟩ : Option Addr) else some ⟨W.heap.size, 4, none⟩) = ad
  go_wp2
  go_ret2
  exact ⟨_, _, _, rfl, S5.out, R4.out, HG.out, fun g hg A n c e => by cases e; have := Hz.out; simp only; omega⟩

/-- What a cause's unmarshal leaves. -/
def ReadsC (w : World) (gc : Nat) (t : TypeId) (ty : Nat) (rest : List Value) (v0 : Value) (l : List UInt8) (e : Ending) (w' : World) : Prop :=
  ∃ A n c, e = .returned .nilIface ∧ Row w' gc t (.int .u16 (ty : Int) :: .int .u16 ((4 + l.length : Nat) : Int) :: .slice A n c :: rest) ∧ Sl w' (.slice A n c) l ∧ (∀ g, Far v0 g → Far (.slice A n c) g) ∧ w.grownBy w' (some gc)

set_option maxRecDepth 20000 in
theorem echunmarshal (gc : Nat) (t : TypeId) (c0 c1 : Int) (v2 : Value) (rest : List Value) (A : Option Addr) (n c : Nat) (ty : Nat) (l r : List UInt8) (w : World) (hr : Row w gc t (.int .u16 c0 :: .int .u16 c1 :: v2 :: rest)) (hs : Sl w (.slice A n c) (tlv ty l ++ r))
    (hf : Far (.slice A n c) gc) (hl : l.length ≤ 65531) (ht : ty < 65536) :
    Calls Tryd.prog 20 #[.pointer (some ⟨gc, 0, none⟩), .slice A n c] w (ReadsC w gc t ty rest (.slice A n c) l) := by
  have hn := hs.len
  simp only [List.length_append, tlv_length] at hn
  have Hs := Lib.hid hs
  obtain ⟨A', c', hv, hnc, hcm, hl0, h0, hc⟩ := hs
  injection hv with e1 e2 e3
  subst e1 e3
  obtain ⟨g, o, rfl, _⟩ := hc (by rw [List.length_append, tlv_length]; omega)
  have hne : ¬ g = gc := fun e => hf _ _ _ rfl e
  have hne' : ¬ gc = g := fun e => hne e.symm
  have hcn : n ≤ c := by rw [List.length_append, tlv_length] at hnc; omega
  obtain ⟨q, hq⟩ : ∃ q, q = l.length := ⟨_, rfl⟩
  obtain ⟨m, hm⟩ : ∃ m, m = 4 + q := ⟨_, rfl⟩
  have n4 : 4 ≤ n := by omega
  have hc0 : ¬ c = 0 := by omega
  have hc2 : ¬ c = 2 := by omega
  have i2 : (2 : Int) ≤ (n : Int) := by omega
  have m4 : ¬ (m : Int) < 4 := by omega
  have mn : ¬ (m : Int) > (n : Int) := by omega
  have j4 : (4 : Int) ≤ (m : Int) := by omega
  have j5 : (m : Int) ≤ (c : Int) := by omega
  have mle : m ≤ 65535 := by omega
  have hcm' : c ≤ 9223372036854775807 := by unfold maxLen at hcm; omega
  have ws : IntKind.u16.wrap ((m : Int) - 4) = (q : Int) := by simp [IntKind.wrap, IntKind.bits, IntKind.signed]; omega
  have wa : IntKind.u16.wrap (4 + (q : Int)) = (m : Int) := by simp [IntKind.wrap, IntKind.bits, IntKind.signed]; omega
  have Hm : Hid (m = 4 + l.length) := Lib.hid (by omega)
  have Hmn : Hid (m ≤ n) := Lib.hid (by omega)
  have et : tlv ty l ++ r = be 2 ty ++ (be 2 m ++ (l ++ r)) := by rw [hm, hq]; simp [tlv]
  rw [et] at Hs
  have Hr := Lib.hid hr
  have Ht := Lib.hid ht
  have Hf := Lib.hid hf
  clear hr hf ht hn hnc hcm hl0 h0 hc e2 et hm hq hl
  go_enter Tryd.func20, Tryd.ntmps20
  go_upto_region 1 with fail
  have Hsub : Hid (Sl w.drew (.slice (some ⟨g, o, none⟩) n c) (be 2 ty ++ (be 2 m ++ (l ++ r)))) := Hs
  go_cut [] (fun wx => Hid (Row wx gc t (.int .u16 (ty : Int) :: .int .u16 c1 :: v2 :: rest)) ∧ Hid (Sl wx (.slice (some ⟨g, o, none⟩) n c) (be 2 ty ++ (be 2 m ++ (l ++ r)))) ∧ Hid (w.grownBy wx (some gc)))
  case first =>
    go_region_with ((go_at_call 19; refine (get16_be _ _ _ ty _ _ Hsub.out Ht.out).mono ?_; rintro z w3 ⟨rfl, hb3⟩; have hr3 := Hr.out.drew.below hb3 Hr.out.lt; have y3 : w3.cell? ⟨gc, 0, none⟩ = some (.int .u16 c0) := (by rw [hr3.cell]; rfl); have f3 := hr3.frozen 0))
    all_goals
      go_wp2_with fail
      go_meet
      exact ⟨Lib.hid (hr3.set 0 _), Lib.hid (Sl.only (Hs.out.drew.below hb3) (only_set (only_refl _ _) 0 _) (fun A n c e => by cases e; exact hne)), Lib.hid (only_set (only_below (only_drew (only_refl _ _)) hb3) 0 _)⟩
  case' rest =>
    obtain ⟨HR, HS, HG⟩ := hcut
  go_upto_region 2 with fail
  have hsub : Sl wc.drew (.slice (some ⟨g, o + 2, none⟩) (n - 2) (c - 2)) _ := (HS.out.rest 2 (by omega) hc2)
  rw [show (be 2 ty ++ (be 2 m ++ (l ++ r))).drop 2 = be 2 m ++ (l ++ r) by simp [be_two]] at hsub
  have Hsub' := Lib.hid hsub
  clear hsub
  go_cut [] (fun wx => Hid (Row wx gc t (.int .u16 (ty : Int) :: .int .u16 (m : Int) :: v2 :: rest)) ∧ Hid (Sl wx (.slice (some ⟨g, o, none⟩) n c) (be 2 ty ++ (be 2 m ++ (l ++ r)))) ∧ Hid (w.grownBy wx (some gc)))
  case first =>
    go_region_with ((go_at_call 19; refine (get16_be _ _ _ m _ _ Hsub'.out (by omega)).mono ?_; rintro z w3 ⟨rfl, hb3⟩; have hr3 := HR.out.drew.below hb3 HR.out.lt; have y3 : w3.cell? ⟨gc, 1, none⟩ = some (.int .u16 c1) := (by rw [hr3.cell]; rfl); have f3 := hr3.frozen 1))
    all_goals
      go_wp2_with fail
      go_meet
      exact ⟨Lib.hid (hr3.set 1 _), Lib.hid (Sl.only (HS.out.drew.below hb3) (only_set (only_refl _ _) 1 _) (fun A n c e => by cases e; exact hne)), Lib.hid (only_set (only_below (only_drew HG.out) hb3) 1 _)⟩
  case' rest =>
    obtain ⟨HR, HS, HG⟩ := hcut
  have k1 : wc.cell? ⟨gc, 1, none⟩ = some (.int .u16 (m : Int)) := by rw [HR.out.cell]; rfl
  have k2 : wc.cell? ⟨gc, 2, none⟩ = some v2 := by rw [HR.out.cell]; rfl
  have f2 := HR.out.frozen 2
  have hS5 := HS.out.sub 4 (m - 4) (by have := Hmn.out; omega)
  have el : ((be 2 ty ++ (be 2 m ++ (l ++ r))).drop 4).take (m - 4) = l := by rw [Hm.out]; simp [be_two]
  rw [el] at hS5
  have HS5 := Lib.hid hS5
  clear hS5 el
  by_cases hc4 : c = 4
  · subst hc4
    rw [if_pos rfl, Nat.sub_self] at HS5
    go_wp2
    go_ret
    refine ⟨_, _, _, rfl, ?_, HS5.out.only (g := gc) (only_set (only_refl _ _) 2 _) (fun A n c e => by cases e; exact hne), (fun g' h A n c e => by cases e; exact h ⟨g, o, none⟩ _ _ rfl), only_set HG.out 2 _⟩
    rw [← Hm.out]
    exact HR.out.set 2 _
  · rw [if_neg hc4] at HS5
    go_wp2
    go_ret
    refine ⟨_, _, _, rfl, ?_, HS5.out.only (g := gc) (only_set (only_refl _ _) 2 _) (fun A n c e => by cases e; exact hne), (fun g' h A n c e => by cases e; exact h ⟨g, o, none⟩ _ _ rfl), only_set HG.out 2 _⟩
    rw [← Hm.out]
    exact HR.out.set 2 _

theorem echlength (gc : Nat) (m : Int) (w : World) (h : w.cell? ⟨gc, 1, none⟩ = some (.int .u16 m)) :
    Calls Tryd.prog 40 #[.pointer (some ⟨gc, 0, none⟩)] w fun e w' => e = .returned (.int .u16 m) ∧ w' = w := by
  go_enter Tryd.func40, Tryd.ntmps40
  go_wp2
  go_ret
  exact ⟨rfl, rfl⟩

theorem echcode (gc : Nat) (m : Int) (w : World) (h : w.cell? ⟨gc, 0, none⟩ = some (.int .u16 m)) :
    Calls Tryd.prog 39 #[.pointer (some ⟨gc, 0, none⟩)] w fun e w' => e = .returned (.int .u16 m) ∧ w' = w := by
  go_enter Tryd.func39, Tryd.ntmps39
  go_wp2
  go_ret
  exact ⟨rfl, rfl⟩
end Go.Proofs.YtjbegflgbkgjpaaDoor
