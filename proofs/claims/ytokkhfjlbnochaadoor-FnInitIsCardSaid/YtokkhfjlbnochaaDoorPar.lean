/- Contracts of a parameter's header: marshal, its type, unmarshal, length. Conditions: the length fits 16 bits. -/
import Derived.Test.YtokkhfjlbnochaaDoorCom
namespace Go.Proofs.YtokkhfjlbnochaaDoor
open Go.RowKit Go.Lib

/-- A parameter: type, length, value. -/
def tlv (ty : Nat) (l : List UInt8) : List UInt8 := be 2 ty ++ (be 2 (4 + l.length) ++ l)
theorem tlv_length (ty : Nat) (l : List UInt8) : (tlv ty l).length = 4 + l.length := by simp [tlv, be_length]; omega
theorem tlv_put (m ty : Nat) (l : List UInt8) (hm : m = 4 + l.length) : put (put (put (List.replicate m 0) 0 (be 2 ty)) 2 (be 2 m)) 4 l = tlv ty l := by
  have h1 := put_put (List.replicate m 0) 0 (be 2 ty) (be 2 m) (by simp [be_length]; omega)
  have h2 := put_put (List.replicate m 0) 0 (be 2 ty ++ be 2 m) l (by simp [be_length]; omega)
  simp only [List.length_append, be_length, Nat.zero_add] at h1 h2
  rw [h1, h2, put_whole _ _ (by simp [be_length]; omega), hm]
  simp [tlv]

/-- Bytes are handed back in new memory, with no error. -/
def RetSlN (w : World) (l : List UInt8) (e : Ending) (w' : World) : Prop := ∃ A n c, e = .returned (.tuple #[.slice A n c, .nilIface]) ∧ Sl w' (.slice A n c) l ∧ Below w.heap.size w w' ∧ ∀ g, g < w.heap.size → Far (.slice A n c) g

set_option maxRecDepth 20000 in
theorem phmarshalN (gc : Nat) (t : TypeId) (ty : Int) (c1 c2 : Value) (A : Option Addr) (n c : Nat) (rest : List Value) (l : List UInt8) (w : World) (hr : Row w gc t (.int .u16 ty :: c1 :: c2 :: .slice A n c :: rest)) (hs : Sl w (.slice A n c) l) (hl : l.length ≤ 65531) (ht0 : 0 ≤ ty) (ht : ty ≤ 65535) :
    Calls Tryd.prog 29 #[.pointer (some ⟨gc, 0, none⟩)] w (RetSlN w (tlv ty.toNat l)) := by
  have hgc := hr.lt
  have k3 : w.cell? ⟨gc, 3, none⟩ = some (.slice A n c) := by rw [hr.cell]; rfl
  have Hr := Lib.hid hr
  have Hs := Lib.hid hs
  obtain ⟨A', c', hv, hnc, hcm, hl0, h0, hc⟩ := hs
  injection hv with e1 e2 e3
  subst e1 e3
  have hn : n = l.length := e2
  have Hn := Lib.hid hn
  obtain ⟨m, hm⟩ : ∃ m, m = 4 + n := ⟨_, rfl⟩
  have m4 : 4 ≤ m := by omega
  have mle : m ≤ 65535 := by omega
  have hmi : (4 : Int) + (n : Int) = (m : Int) := by omega
  have Hm := Lib.hid hm
  clear hr hc h0 hl0 hcm hnc e2 hn hm
  go_enter Tryd.func29, Tryd.ntmps29
  go_wp2_with (at_make; refine wpList_make_row _ rfl _ _ _ rfl bT rfl _ _ _ _ m rfl rfl ?d1 ?d2 ?c1 ?c2 ?_)
  case d1 => first | rfl | omega
  case d2 => first | rfl | omega
  case c1 => omega
  case c2 => unfold maxLen; omega
  intro w1 hrow hb1
  have hrow' : Row w1 w.heap.size 5 (bvs (List.replicate m 0)) := by rw [bvs_zero]; exact hrow
  have hR := Hr.out.below hb1 hgc
  have k0 : w1.cell? ⟨gc, 0, none⟩ = some (.int .u16 ty) := by rw [hR.cell]; rfl
  have P0 := Lib.hid (Puts.start hrow')
  have R0 := Lib.hid hR
  have Hb1 := Lib.hid hb1
  have hne : ¬ gc = w.heap.size := by omega
  have c2' : ¬ m = 2 := by omega
  have c0' : ¬ m = 0 := by omega
  have i2 : (2 : Int) ≤ (m : Int) := by omega
  have i4 : (4 : Int) ≤ (m : Int) := by omega
  clear hrow hrow' hR hb1 k3 hmi
  go_wp2_with fail
  refine wp_region_tail 7 (by kernel_rfl) (by kernel_rfl) ?_
  simp only [List.take_succ_cons, List.take_zero, List.drop_succ_cons, List.drop_zero]
  repeat still_step
  refine wpStill_nil ?_
  go_wp2_with fail
  refine (put16_any _ 0 _ _ _ _ _ w1.drew P0.out.drew.1 (by simp; omega) (by omega) ht0 ht).mono ?_
  rintro z w2 ⟨rfl, hP⟩
  have hR := R0.out.drew.grown hP.2 (by intro e; injection e with e; exact hne e)
  have hP := P0.out.drew.trans hP
  have P1 := Lib.hid hP
  have L1 : Hid ((put (List.replicate m 0) 0 (be 2 ty.toNat)).length = m) := by show _ = m; rw [put_length _ _ _ (by simp [be_length]; omega)]; simp
  have R1 := Lib.hid hR
  have wm : IntKind.u16.wrap (m : Int) = (m : Int) := by simp [IntKind.wrap, IntKind.bits, IntKind.signed]; omega
  clear hP hR k0
  go_wp2_with fail
  refine wp_region_tail 5 (by kernel_rfl) (by kernel_rfl) ?_
  simp only [List.take_succ_cons, List.take_zero, List.drop_succ_cons, List.drop_zero]
  repeat still_step
  refine wpStill_nil ?_
  go_wp2_with fail
  refine (put16_any _ 2 _ _ (m : Int) _ _ w2.drew P1.out.drew.1 (by have := L1.out; omega) (by omega) (by omega) (by omega)).mono ?_
  rintro z w3 ⟨rfl, hP⟩
  have hR := R1.out.drew.grown hP.2 (by intro e; injection e with e; exact hne e)
  have hP := P1.out.drew.trans hP
  rw [Int.toNat_natCast] at hP
  have k3 : w3.cell? ⟨gc, 3, none⟩ = some (.slice A n c) := by rw [hR.cell]; rfl
  have P2 := Lib.hid hP
  have L2 : Hid ((put (put (List.replicate m 0) 0 (be 2 ty.toNat)) 2 (be 2 m)).length = m) := by have := L1.out; show _ = m; rw [put_length _ _ _ (by rw [be_length]; omega)]; exact this
  have B2 := Lib.hid (below_only Hb1.out Hb1.out.size hP.2 (Nat.le_refl _))
  clear hP hR wm
  go_wp2_with fail
  refine wp_region_tail 6 (by kernel_rfl) (by kernel_rfl) ?_
  simp only [List.take_succ_cons, List.take_zero, List.drop_succ_cons, List.drop_zero]
  repeat still_step
  refine wpStill_nil ?_
  refine wpList_copy_put rfl _ _ _ _ rfl bT _ _ _ rfl _ rfl w.heap.size 4 _ _ l P2.out.drew.1 (Hs.out.below B2.out).drew ?c3 ?c4 ?c5 ?_
  case c3 => have := Hm.out; have := Hn.out; omega
  case c4 => intro hp; have := Hm.out; have := Hn.out; rw [if_neg (by omega)]
  case c5 => have := L2.out; have := Hm.out; have := Hn.out; omega
  intro w4 hP
  have hP := P2.out.drew.trans hP
  have B4 := Lib.hid (below_only Hb1.out Hb1.out.size hP.2 (Nat.le_refl _))
  have hP5 := hP.1
  rw [tlv_put m _ l (by have := Hm.out; have := Hn.out; omega)] at hP5
  have S5 := Lib.hid (hP5.sl (n := m) (c := m) (by rw [tlv_length]; have := Hm.out; have := Hn.out; omega) (Nat.le_refl _) (by unfold maxLen; omega))
  clear hP hP5 P0 P1 P2 L1 L2 R0 R1 B2 Hb1 k3
  generalize (if m = 4 then (some ⟨w.heap.size, 0, none⟩ : Option Addr) else some ⟨w.heap.size, 4, none⟩) = ad
  go_wp2
  go_ret2
  exact ⟨_, _, _, rfl, S5.out, B4.out, fun g hg A n c e => by cases e; simp only; omega⟩

theorem phmarshal (gc : Nat) (t : TypeId) (ty : Int) (c1 c2 : Value) (A : Option Addr) (n c : Nat) (rest : List Value) (l : List UInt8) (w : World) (hr : Row w gc t (.int .u16 ty :: c1 :: c2 :: .slice A n c :: rest)) (hs : Sl w (.slice A n c) l) (hl : l.length ≤ 65531) (ht0 : 0 ≤ ty) (ht : ty ≤ 65535) :
    Calls Tryd.prog 29 #[.pointer (some ⟨gc, 0, none⟩)] w (RetSlE w (tlv ty.toNat l)) := by
  refine (phmarshalN gc t ty c1 c2 A n c rest l w hr hs hl ht0 ht).mono ?_
  rintro e w' ⟨A', n', c', rfl, hS, hB, _⟩
  exact ⟨A', n', c', rfl, hS, hB⟩

theorem ppt_any (A : Option Addr) (n c : Nat) (v : Nat) (r : List UInt8) (w : World) (h : Sl w (.slice A n c) (be 2 v ++ r)) (hv : v < 65536) :
    Calls Tryd.prog 54 #[.slice A n c] w fun e w' => e = .returned (.tuple #[.int .u16 (v : Int), .nilIface]) ∧ Below w.heap.size w w' := by
  have hn := h.len
  simp only [List.length_append, be_length] at hn
  have H := Lib.hid h
  have i2 : ¬ (n : Int) < 2 := by omega
  clear h hn
  go_enter Tryd.func54, Tryd.ntmps54
  go_wp2_with fail
  refine (get16_be A n c v r _ H.out hv).mono ?_
  rintro e w2 ⟨rfl, hb⟩
  go_wp2
  go_ret2
  exact ⟨rfl, hb⟩

/-- What a parameter header's unmarshal leaves. -/
def ReadsP (w : World) (gc : Nat) (t : TypeId) (ty : Nat) (rest : List Value) (v0 : Value) (l : List UInt8) (e : Ending) (w' : World) : Prop :=
  ∃ A n c act, e = .returned .nilIface ∧ Row w' gc t (.int .u16 (ty : Int) :: .int .u8 act :: .int .i64 ((4 + l.length : Nat) : Int) :: .slice A n c :: rest) ∧ Sl w' (.slice A n c) l ∧ (∀ g, Far v0 g → Far (.slice A n c) g) ∧ w.grownBy w' (some gc)

set_option maxRecDepth 20000 in
theorem phunmarshal (gc : Nat) (t : TypeId) (c0 c1 c2 c3 : Value) (rest : List Value) (A : Option Addr) (n c : Nat) (ty : Nat) (l r : List UInt8) (w : World)
    (hr : Row w gc t (c0 :: c1 :: c2 :: c3 :: rest)) (hs : Sl w (.slice A n c) (tlv ty l ++ r)) (hf : Far (.slice A n c) gc) (hl : l.length ≤ 65531) (ht : ty < 65536) :
    Calls Tryd.prog 52 #[.pointer (some ⟨gc, 0, none⟩), .slice A n c] w (ReadsP w gc t ty rest (.slice A n c) l) := by
  have hn := hs.len
  simp only [List.length_append, tlv_length] at hn
  have Hs := Lib.hid hs
  obtain ⟨A', c', hv, hnc, hcm, hl0, h0, hc⟩ := hs
  injection hv with e1 e2 e3
  subst e1 e3
  obtain ⟨g, o, rfl, hg⟩ := hc (by simp [tlv, be_length]; omega)
  have hne : ¬ g = gc := fun e => hf _ _ _ rfl e
  have hne' : ¬ gc = g := fun e => hne e.symm
  have k0 : w.cell? ⟨gc, 0, none⟩ = some c0 := by rw [hr.cell]; rfl
  have Hr := Lib.hid hr
  have Hf := Lib.hid hf
  obtain ⟨m, hm⟩ : ∃ m, m = 4 + l.length := ⟨_, rfl⟩
  have hmn : m + r.length = n := by omega
  have Hm := Lib.hid hm
  have Hmn := Lib.hid hmn
  have i4 : ¬ (n : Int) < 4 := by omega
  have i2 : (2 : Int) ≤ (n : Int) := by omega
  have m4 : ¬ (m : Int) < 4 := by omega
  have mn : ¬ (n : Int) < (m : Int) := by omega
  have hnc' : n ≤ c := by rw [hn]; simpa [tlv_length] using hnc
  have hc2 : ¬ c = 2 := by omega
  have hc0 : ¬ c = 0 := by omega
  have j4 : (4 : Int) ≤ (m : Int) := by omega
  have j5 : (m : Int) ≤ (c : Int) := by omega
  have mle : m ≤ 65535 := by omega
  have hcm' : c ≤ 9223372036854775807 := by unfold maxLen at hcm; omega
  have h2 : Sl w.drew (.slice (some ⟨g, o + 2, none⟩) (n - 2) (c - 2)) (be 2 m ++ (l ++ r)) := by
    have h3 := Hs.out.sub 2 (n - 2) (by omega)
    rw [if_neg hc2] at h3
    have e : (tlv ty l ++ r).drop 2 = be 2 m ++ (l ++ r) := by rw [hm]; simp [tlv, be_length]
    rw [e, List.take_of_length_le (by simp [be_length]; omega)] at h3
    exact h3
  have H2 := Lib.hid h2
  have B0 : w.cell? ⟨g, o, none⟩ = some (bv ((be 2 ty ++ (be 2 m ++ (l ++ r))).headD 0)) := by
    have h3 := hg 0 (bv ((be 2 ty ++ (be 2 m ++ (l ++ r))).headD 0)) (by rw [hm]; simp [tlv, be_two, bvs])
    exact h3
  have hlt := Lib.hid ht
  obtain ⟨b, hb⟩ : ∃ b, b = (be 2 ty ++ (be 2 m ++ (l ++ r))).headD 0 := ⟨_, rfl⟩
  rw [← hb] at B0
  have HB := Lib.hid B0
  clear hr hg hc h0 hl0 hcm e2 hnc hn hf hmn hm hl B0 k0 h2 hb
  go_enter Tryd.func52, Tryd.ntmps52
  go_wp2_with fail
  refine wp_region_tail 3 (by kernel_rfl) (by kernel_rfl) ?_
  simp only [List.take_succ_cons, List.take_zero, List.drop_succ_cons, List.drop_zero]
  repeat still_step
  refine wpStill_nil ?_
  go_wp2_with fail
  refine (get16_be _ _ _ m _ _ H2.out (by omega)).mono ?_
  rintro e w2 ⟨rfl, hb2⟩
  have HR2 := Lib.hid (Hr.out.drew.below hb2 Hr.out.lt)
  have hG2 : w.grownBy w2 (some gc) := only_below (only_drew (only_refl _ _)) hb2
  have HG2 := Lib.hid hG2
  clear hb2 H2 hG2
  go_wp2_with fail
  have h3 : Sl w2 (.slice (some ⟨g, o, none⟩) n c) (be 2 ty ++ (be 2 m ++ (l ++ r))) := by
    have h4 := Hs.out.only HG2.out Hf.out
    have e : tlv ty l ++ r = be 2 ty ++ (be 2 m ++ (l ++ r)) := by rw [Hm.out]; simp [tlv]
    rwa [e] at h4
  have H3 := Lib.hid h3
  clear h3
  refine (ppt_any _ _ _ ty _ w2 H3.out hlt.out).mono ?_
  rintro e w3 ⟨rfl, hb3⟩
  have HR3 := Lib.hid (HR2.out.below hb3 (HR2.out.lt))
  have hG3 : w.grownBy w3 (some gc) := only_below HG2.out hb3
  have HG3 := Lib.hid hG3
  have hS3 := (Hs.out.only hG3 Hf.out).sub 4 (m - 4) (by omega)
  have el : ((tlv ty l ++ r).drop 4).take (m - 4) = l := by rw [Hm.out]; simp [tlv, be_two]
  rw [el] at hS3
  have HS3 := Lib.hid hS3
  have b3 : w3.cell? ⟨g, o, none⟩ = some (.int .u8 (b.toNat : Int)) := hG3.cell HB.out (by intro e; injection e with e; exact hne e)
  have k0 : w3.cell? ⟨gc, 0, none⟩ = some c0 := by rw [HR3.out.cell]; rfl
  have k1 : w3.cell? ⟨gc, 1, none⟩ = some c1 := by rw [HR3.out.cell]; rfl
  have k2 : w3.cell? ⟨gc, 2, none⟩ = some c2 := by rw [HR3.out.cell]; rfl
  have k3 : w3.cell? ⟨gc, 3, none⟩ = some c3 := by rw [HR3.out.cell]; rfl
  have f0 := HR3.out.frozen 0
  have f1 := HR3.out.frozen 1
  have f2 := HR3.out.frozen 2
  have f3 := HR3.out.frozen 3
  clear hb3 hG3 hS3 el H3 HR2 HG2
  by_cases hc4 : c = 4
  · subst hc4
    rw [if_pos rfl, Nat.sub_self] at HS3
    go_wp2
    go_ret
    refine ⟨_, _, _, bits .and .u8 (b.toNat : Int) 192, rfl, ?_, HS3.out.only (g := gc) (only_set (only_set (only_set (only_set (only_refl _ _) 0 _) 1 _) 3 _) 2 _) (fun A n c e => by cases e; exact hne), (fun g' h A n c e => by cases e; exact h ⟨g, o, none⟩ _ _ rfl), only_set (only_set (only_set (only_set HG3.out 0 _) 1 _) 3 _) 2 _⟩
    rw [← Hm.out]
    exact (((HR3.out.set 0 _).set 1 _).set 3 _).set 2 _
  · rw [if_neg hc4] at HS3
    go_wp2
    go_ret
    refine ⟨_, _, _, bits .and .u8 (b.toNat : Int) 192, rfl, ?_, HS3.out.only (g := gc) (only_set (only_set (only_set (only_set (only_refl _ _) 0 _) 1 _) 3 _) 2 _) (fun A n c e => by cases e; exact hne), (fun g' h A n c e => by cases e; exact h ⟨g, o, none⟩ _ _ rfl), only_set (only_set (only_set (only_set HG3.out 0 _) 1 _) 3 _) 2 _⟩
    rw [← Hm.out]
    exact (((HR3.out.set 0 _).set 1 _).set 3 _).set 2 _

theorem phlength (gc : Nat) (m : Int) (w : World) (h : w.cell? ⟨gc, 2, none⟩ = some (.int .i64 m)) :
    Calls Tryd.prog 53 #[.pointer (some ⟨gc, 0, none⟩)] w fun e w' => e = .returned (.int .i64 m) ∧ w' = w := by
  go_enter Tryd.func53, Tryd.ntmps53
  go_wp2
  go_ret
  exact ⟨rfl, rfl⟩
end Go.Proofs.YtokkhfjlbnochaaDoor
