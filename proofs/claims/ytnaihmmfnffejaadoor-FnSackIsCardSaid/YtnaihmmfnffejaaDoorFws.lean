/- Contracts of a stream's entry of FORWARD TSN: length, marshal, unmarshal. Conditions: the numbers fit 16 bits. -/
import Derived.Test.YtnaihmmfnffejaaDoorPrs
import Derived.Test.YtnaihmmfnffejaaDoorDatU
namespace Go.Proofs.YtnaihmmfnffejaaDoor
open Go.RowKit Go.Lib

theorem fslen_any (v : Value) (w : World) : Calls Tryd.prog 83 #[v] w fun e w' => e = .returned (.int .i64 4) ∧ w = w' := by
  go_enter Tryd.func83, Tryd.ntmps83
  go_wp2
  go_ret
  exact ⟨rfl, rfl⟩

theorem two_put (a b : Nat) : put (put (List.replicate 4 0) 0 (be 2 a)) 2 (be 2 b) = be 2 a ++ be 2 b := by
  have h1 := put_put (List.replicate 4 0) 0 (be 2 a) (be 2 b) (by simp [be_length])
  simp only [be_length, Nat.zero_add] at h1
  rw [h1, put_whole _ _ (by simp [be_length])]

set_option maxRecDepth 20000 in
theorem fsmarshal (gc : Nat) (t : TypeId) (a b : Int) (w : World) (hr : Row w gc t [.int .u16 a, .int .u16 b]) (ha0 : 0 ≤ a) (ha : a ≤ 65535) (hb0 : 0 ≤ b) (hb : b ≤ 65535) :
    Calls Tryd.prog 81 #[.pointer (some ⟨gc, 0, none⟩)] w (RetSlE w (be 2 a.toNat ++ be 2 b.toNat)) := by
  have hgc := hr.lt
  have h0 : w.cell? ⟨gc, 0, none⟩ = some (.int .u16 a) := by rw [hr.cell]; rfl
  have h1 : w.cell? ⟨gc, 1, none⟩ = some (.int .u16 b) := by rw [hr.cell]; rfl
  have Hr := Lib.hid hr
  clear hr
  go_enter Tryd.func81, Tryd.ntmps81
  go_wp2_with (at_make; refine wpList_make_row _ rfl _ _ _ rfl bT rfl _ _ _ _ 4 rfl rfl (by rfl) (by rfl) (by omega) (by unfold maxLen; omega) ?_)
  intro w1 hrow hb1
  have hrow' : Row w1 w.heap.size 5 (bvs (List.replicate 4 0)) := by rw [bvs_zero]; exact hrow
  have k0 := (hb1.cell (p := ⟨gc, 0, none⟩) hgc).trans h0
  have k1 := (hb1.cell (p := ⟨gc, 1, none⟩) hgc).trans h1
  have Hrow := Lib.hid hrow'
  have Hb1 := Lib.hid hb1
  clear hrow' hrow hb1 h0 h1
  go_wp2_with fail
  refine wp_region_tail 7 (by kernel_rfl) (by kernel_rfl) ?_
  simp only [List.take_succ_cons, List.take_zero, List.drop_succ_cons, List.drop_zero]
  repeat still_step
  refine wpStill_nil ?_
  go_wp2_with fail
  refine (put16_any _ 0 _ _ _ _ _ w1.drew Hrow.out.drew (by simp) (by omega) ha0 ha).mono ?_
  rintro e w2 ⟨rfl, hP2⟩
  have hb2 : Below w.heap.size w w2 := below_only Hb1.out.drew Hb1.out.size hP2.2 (Nat.le_refl _)
  have k1 : w2.cell? ⟨gc, 1, none⟩ = some (.int .u16 b) := by rw [hb2.cell (p := ⟨gc, 1, none⟩) hgc, Hr.out.cell]; rfl
  have HP2 := Lib.hid hP2
  have Hb2 := Lib.hid hb2
  clear hb2 hP2 k0
  go_wp2_with fail
  refine wp_region_tail 7 (by kernel_rfl) (by kernel_rfl) ?_
  simp only [List.take_succ_cons, List.take_zero, List.drop_succ_cons, List.drop_zero]
  repeat still_step
  refine wpStill_nil ?_
  go_wp2_with fail
  refine (put16_any _ 2 _ _ _ _ _ w2.drew HP2.out.1.drew (by simp [put_length, be_length]) (by omega) hb0 hb).mono ?_
  rintro e w3 ⟨rfl, hP3⟩
  rw [two_put] at hP3
  have hb3 : Below w.heap.size w w3 := below_only Hb2.out.drew Hb2.out.size hP3.2 (Nat.le_refl _)
  have HP3 := Lib.hid hP3
  have Hb3 := Lib.hid hb3
  clear hP3 hb3
  go_wp2
  go_ret2
  exact ⟨_, _, _, rfl, HP3.out.1.sl (by simp [be_length]) (by omega) (by unfold maxLen; omega), Hb3.out⟩

set_option maxRecDepth 20000 in
theorem fsunmarshal (gc : Nat) (t : TypeId) (c0 c1 : Int) (A : Option Addr) (n c : Nat) (a b : Nat) (r : List UInt8) (w : World) (hr : Row w gc t [.int .u16 c0, .int .u16 c1]) (hs : Sl w (.slice A n c) (be 2 a ++ (be 2 b ++ r)))
    (hf : Far (.slice A n c) gc) (ha : a < 65536) (hb : b < 65536) :
    Calls Tryd.prog 82 #[.pointer (some ⟨gc, 0, none⟩), .slice A n c] w fun e w' =>
      e = .returned .nilIface ∧ Row w' gc t [.int .u16 (a : Int), .int .u16 (b : Int)] ∧ w.grownBy w' (some gc) := by
  have hn := hs.len
  simp only [List.length_append, be_length] at hn
  have Hs := Lib.hid hs
  obtain ⟨A', c', hv, hnc, hcm, hl0, h0, hc⟩ := hs
  injection hv with e1 e2 e3
  subst e1 e3
  obtain ⟨g, o, rfl, _⟩ := hc (by simp [be_length]; omega)
  have hne : ¬ g = gc := fun e => hf _ _ _ rfl e
  have hne' : ¬ gc = g := fun e => hne e.symm
  have hcn : n ≤ c := by omega
  have n4 : 4 ≤ n := by omega
  have hc0 : ¬ c = 0 := by omega
  have hc2 : ¬ c = 2 := by omega
  have i2 : (2 : Int) ≤ (n : Int) := by omega
  have i4 : ¬ (n : Int) < 4 := by omega
  have Hr := Lib.hid hr
  have Ha := Lib.hid ha
  have Hb := Lib.hid hb
  clear hr hf ha hb hn hnc hcm hl0 h0 hc e2
  go_enter Tryd.func82, Tryd.ntmps82
  go_upto_region 3 with fail
  have Hsub : Hid (Sl w.drew (.slice (some ⟨g, o, none⟩) n c) (be 2 a ++ (be 2 b ++ r))) := Hs
  go_cut [] (fun wx => Hid (Row wx gc t [.int .u16 (a : Int), .int .u16 c1]) ∧ Hid (Sl wx (.slice (some ⟨g, o, none⟩) n c) (be 2 a ++ (be 2 b ++ r))) ∧ Hid (w.grownBy wx (some gc)))
  case first =>
    go_region_with ((go_at_call 77; refine (get16_be _ _ _ a _ _ Hsub.out Ha.out).mono ?_; rintro z w3 ⟨rfl, hb3⟩; have hr3 := Hr.out.drew.below hb3 Hr.out.lt; have y3 : w3.cell? ⟨gc, 0, none⟩ = some (.int .u16 c0) := (by rw [hr3.cell]; rfl); have f3 := hr3.frozen 0))
    all_goals
      go_wp2_with fail
      go_meet
      exact ⟨Lib.hid (hr3.set 0 _), Lib.hid (Sl.only (Hs.out.drew.below hb3) (only_set (only_refl _ _) 0 _) (fun A n c e => by cases e; exact hne)), Lib.hid (only_set (only_below (only_drew (only_refl _ _)) hb3) 0 _)⟩
  case' rest =>
    obtain ⟨HR, HS, HG⟩ := hcut
  go_upto_region 4 with fail
  have hsub : Sl wc.drew (.slice (some ⟨g, o + 2, none⟩) (n - 2) (c - 2)) _ := (HS.out.rest 2 (by omega) hc2)
  rw [show (be 2 a ++ (be 2 b ++ r)).drop 2 = be 2 b ++ r by simp [be_two]] at hsub
  have Hsub' := Lib.hid hsub
  clear hsub
  go_cut [] (fun wx => Hid (Row wx gc t [.int .u16 (a : Int), .int .u16 (b : Int)]) ∧ Hid (w.grownBy wx (some gc)))
  case first =>
    go_region_with ((go_at_call 77; refine (get16_be _ _ _ b _ _ Hsub'.out Hb.out).mono ?_; rintro z w3 ⟨rfl, hb3⟩; have hr3 := HR.out.drew.below hb3 HR.out.lt; have y3 : w3.cell? ⟨gc, 1, none⟩ = some (.int .u16 c1) := (by rw [hr3.cell]; rfl); have f3 := hr3.frozen 1))
    all_goals
      go_wp2_with fail
      go_meet
      exact ⟨Lib.hid (hr3.set 1 _), Lib.hid (only_set (only_below (only_drew HG.out) hb3) 1 _)⟩
  case' rest =>
    obtain ⟨HR, HG⟩ := hcut
  go_wp2
  go_ret
  exact ⟨rfl, HR.out, HG.out⟩
end Go.Proofs.YtnaihmmfnffejaaDoor
