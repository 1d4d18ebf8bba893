/- Contracts of the chunk header: marshal and unmarshal. Conditions: the length fits 16 bits. -/
import Derived.Test.YtokkhfjlbnochaaDoorBin
import Derived.StillTailTactics
namespace Go.Proofs.YtokkhfjlbnochaaDoor
open Go.RowKit Go.Lib

/-- A call that returns bytes and no error. -/
def RetSlE (w : World) (l : List UInt8) (e : Ending) (w' : World) : Prop := ∃ A n c, e = .returned (.tuple #[.slice A n c, .nilIface]) ∧ Sl w' (.slice A n c) l ∧ Below w.heap.size w w'

/-- A region that draws its order, all of whose operations but the last ones only read: the reads first, in the text's order; then the rest. -/
theorem wp_region_tail {P : Program} {id : Nat} {Q : Exit → Act → World → Prop} {a : Act} {w : World} {l : List Oper} (n : Nat) (hm : P.follows .mixedOrders = true) (hB : Region.lexTailB .any l.toArray n = true)
    (h : wpStill P l.toArray w.drew (fun a' => wpList P l.toArray Q (l.drop n) a' w.drew) (l.take n) a) : (Code.region id l.toArray true).wp P Q a w := wp_region_still_tail n hm hB h
theorem bvs_zero (n : Nat) : bvs (List.replicate n 0) = List.replicate n (.int .u8 0) := by simp [bvs, bv]
set_option maxRecDepth 20000 in
theorem hmarshal_any (gc : Nat) (t : TypeId) (tb fb : UInt8) (rv : Value) (rest : List Value) (l : List UInt8) (w : World) (hr : Row w gc t (bv tb :: bv fb :: rv :: rest)) (hs : Sl w rv l) (hl : l.length ≤ 65531) :
    Calls Tryd.prog 32 #[.pointer (some ⟨gc, 0, none⟩)] w (RetSlE w (tb :: fb :: (be 2 (l.length + 4) ++ l))) := by
  have h0 : w.cell? ⟨gc, 0, none⟩ = some (.int .u8 (tb.toNat : Int)) := by rw [hr.cell]; rfl
  have h1 : w.cell? ⟨gc, 1, none⟩ = some (.int .u8 (fb.toNat : Int)) := by rw [hr.cell]; rfl
  have h2 : w.cell? ⟨gc, 2, none⟩ = some rv := by rw [hr.cell]; rfl
  have Hs := Lib.hid hs
  obtain ⟨A, c, rfl, hnc, hcm, hl0, ha0, hc⟩ := hs
  have Hr := Lib.hid hr
  have hgc := hr.lt
  clear hc ha0 hl0 hr
  unfold maxLen at hcm
  obtain ⟨m, hm⟩ : ∃ m, m = 4 + l.length := ⟨_, rfl⟩
  have m4 : 4 ≤ m := by omega
  have mle : m ≤ 65535 := by omega
  have Hm := Lib.hid hm
  clear hm
  go_enter Tryd.func32, Tryd.ntmps32
  go_wp2_with (at_make; refine wpList_make_row _ rfl _ _ _ rfl bT rfl _ _ _ _ m rfl rfl ?d1 ?d2 ?c1 ?c2 ?_)
  case d1 => have := Hm.out; omega
  case d2 => have := Hm.out; omega
  case c1 => omega
  case c2 => unfold maxLen; omega
  intro w1 hrow hb1
  have k0 := (hb1.cell (p := ⟨gc, 0, none⟩) hgc).trans h0
  have k1 := (hb1.cell (p := ⟨gc, 1, none⟩) hgc).trans h1
  have k2 := (hb1.cell (p := ⟨gc, 2, none⟩) hgc).trans h2
  have hrow' : Row w1 w.heap.size 5 (bvs (List.replicate m 0)) := by rw [bvs_zero]; exact hrow
  have r0 : w1.cell? ⟨w.heap.size, 0, none⟩ = some (bv 0) := by rw [hrow'.cell, bvs_get _ _ (by simp; omega)]; simp
  have r1 : w1.cell? ⟨w.heap.size, 1, none⟩ = some (bv 0) := by rw [hrow'.cell, bvs_get _ _ (by simp; omega)]; simp
  generalize bv 0 = z at r0 r1
  have f0 := hrow.frozen 0
  have f1 := hrow.frozen 1
  have hne : ¬ w.heap.size = gc := by omega
  have hne' : ¬ gc = w.heap.size := by omega
  have i0 : (0 : Int) < (m : Int) := by omega
  have i1 : (1 : Int) < (m : Int) := by omega
  have hP := ((Puts.start hrow').set 0 (u := .int .u8 (tb.toNat : Int)) tb rfl).set 1 (u := .int .u8 (fb.toNat : Int)) fb rfl
  have HP := Lib.hid hP
  have Hb1 := Lib.hid hb1
  clear h0 h1 h2 hrow hb1 hrow' hP
  go_wp2_with fail
  have hP := HP.out
  clear HP r0 r1 f0 f1 k0 k1
  generalize (w1.setCell ⟨w.heap.size, 0, none⟩ (.int .u8 (tb.toNat : Int))).setCell ⟨w.heap.size, 1, none⟩ (.int .u8 (fb.toNat : Int)) = W at hP ⊢
  have hbW : Below w.heap.size w W := below_only Hb1.out Hb1.out.size hP.2 (Nat.le_refl _)
  have k2 : W.cell? ⟨gc, 2, none⟩ = some (.slice A l.length c) := (hbW.cell (p := ⟨gc, 2, none⟩) hgc).trans (by rw [Hr.out.cell]; rfl)
  have HP := Lib.hid hP
  have HbW := Lib.hid hbW
  clear hP hbW Hb1
  have i2 : (2 : Int) ≤ (m : Int) := by omega
  have hc2 : ¬ m = 2 := by omega
  refine wp_region_tail 10 (by kernel_rfl) (by kernel_rfl) ?_
  simp only [List.take_succ_cons, List.take_zero, List.drop_succ_cons, List.drop_zero]
  repeat still_step
  refine wpStill_nil ?_
  go_wp2_with fail
  refine (put16_any _ 2 _ _ _ _ _ W.drew HP.out.drew.1 (by simp; omega) (by omega) (by omega) (by omega)).mono ?_
  rintro e w2 ⟨rfl, hP2⟩
  have hP := HP.out.drew.trans hP2
  have hb2 : Below w.heap.size w w2 := below_only HbW.out.drew HbW.out.size hP2.2 (Nat.le_refl _)
  clear HP hP2 HbW
  have HP := Lib.hid hP
  have Hb2 := Lib.hid hb2
  have k3 : w2.cell? ⟨gc, 2, none⟩ = some (.slice A l.length c) := (hb2.cell (p := ⟨gc, 2, none⟩) hgc).trans (by rw [Hr.out.cell]; rfl)
  clear hP hb2 k2
  have i4 : (4 : Int) ≤ (m : Int) := by omega
  go_wp2_with fail
  refine wp_region_tail 6 (by kernel_rfl) (by kernel_rfl) ?_
  simp only [List.take_succ_cons, List.take_zero, List.drop_succ_cons, List.drop_zero]
  repeat still_step
  refine wpStill_nil ?_
  refine wpList_copy_put rfl _ _ _ _ rfl bT _ _ _ rfl _ rfl w.heap.size 4 _ _ l HP.out.drew.1 (Hs.out.below Hb2.out).drew ?c3 ?c4 ?c5 ?_
  case c3 => have := Hm.out; omega
  case c4 => intro hp; have := Hm.out; rw [if_neg (by omega)]
  case c5 => rw [put_length _ _ _ (by simp [be_length]; omega)]; have := Hm.out; simp; omega
  intro w3 hP3
  have hP := HP.out.drew.trans hP3
  have hb3 : Below w.heap.size w w3 := below_only Hb2.out.drew Hb2.out.size hP3.2 (Nat.le_refl _)
  clear HP hP3 Hb2 k3
  generalize (if m = 4 then (some ⟨w.heap.size, 0, none⟩ : Option Addr) else some ⟨w.heap.size, 4, none⟩) = ad
  go_wp2
  go_ret2
  have hm := Hm.out
  have e0 : put (put (((List.replicate m 0).set 0 tb).set 1 fb) 2 (be 2 ((l.length : Int) + 4).toNat)) 4 l = tb :: fb :: (be 2 (l.length + 4) ++ l) := by
    have h1 := put_put (((List.replicate m 0).set 0 tb).set 1 fb) 2 (be 2 ((l.length : Int) + 4).toNat) l (by simp [be_length]; omega)
    rw [be_length] at h1
    rw [h1, set_two _ 0 tb fb (by simp; omega)]
    have h2 := put_put (List.replicate m 0) 0 [tb, fb] (be 2 ((l.length : Int) + 4).toNat ++ l) (by simp [be_length]; omega)
    rw [show 0 + [tb, fb].length = 2 from rfl] at h2
    rw [h2, show ((l.length : Int) + 4).toNat = l.length + 4 by omega]
    simp only [put, List.take_zero, List.nil_append]
    rw [List.drop_of_length_le (by simp [be_length]; omega)]
    simp
  refine ⟨_, _, _, rfl, ?_, hb3⟩
  rw [← e0]
  exact hP.1.sl (by rw [e0]; simp [be_length]; omega) (Nat.le_refl _) (by unfold maxLen; omega)
end Go.Proofs.YtokkhfjlbnochaaDoor
