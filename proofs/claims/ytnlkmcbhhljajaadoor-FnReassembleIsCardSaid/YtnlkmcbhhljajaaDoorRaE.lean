/- The contract of pushWithError where others of the message had come. Conditions: the chunk's number is new; few chunks. -/
import Derived.Test.YtnlkmcbhhljajaaDoorRaV
namespace Go.Proofs.YtnlkmcbhhljajaaDoor
open Go.RowKit Go.Lib

/-- A chunk has come of a message of which others had. -/
def Pushed2 (first st B Q : Nat) (w0 : World) (P1 : List MSet) (s : MSet) (P2 : List MSet) (p : Ck) (z : Ending) (w' : World) : Prop :=
  (∃ b, z = .returned (.tuple #[.bool b, .nilIface])) ∧ ∃ ov' nb' rv' cs', cs'.Perm (s.cs ++ [p]) ∧ cs'.Pairwise (fun a b => a.2.t ≤ b.2.t) ∧ QSt first st B Q w0 w' ov' nb' (P1 ++ ⟨s.sb, s.k, rv', cs'⟩ :: P2)

set_option maxRecDepth 20000 in
set_option maxHeartbeats 1600000 in
theorem push_more (first st B Q : Nat) (w0 w : World) (ov : Value) (nb : Int) (P1 P2 : List MSet) (s : MSet) (p : Ck) (hf : first < 4294967296) (h : QSt first st B Q w0 w ov nb (P1 ++ s :: P2)) (hp : ChunkAt first st w0 w p) (hl : (P1 ++ s :: P2).length ≤ 1000) (hpk : p.2.k ≤ 1000) (hpt : p.2.t ≤ 5000)
    (hfr : (p.2.b && p.2.e) = false) (hB : B ≤ w.heap.size) (hno : ∀ a ∈ P1, a.k ≠ p.2.k) (hsk : s.k = p.2.k) (c0 : Ck) (hc0 : s.cs[0]? = some c0) (hf0 : (c0.2.b && c0.2.e) = false) (hsl : s.cs.length ≤ 10000) (hst : ∀ c ∈ s.cs, c.2.t ≤ 5000 ∧ c.2.t ≠ p.2.t) :
    Calls Tryd.prog 16 #[.pointer (some ⟨Q, 0, none⟩), .pointer (some ⟨p.1, 0, none⟩)] w (Pushed2 first st B Q w0 P1 s P2 p) := by
  obtain ⟨q0, q1, q3, q11, q12, qf⟩ := h.cells
  obtain ⟨A, n, cap, c4, c8, c9, c10, c13, c14, hn⟩ := hp.cells
  have HQ := Lib.hid h
  have HP := Lib.hid hp
  obtain ⟨A1, n1, cap1, hrow, _⟩ := id hp
  have HR := Lib.hid hrow
  have hlt : ∀ w, Calls Tryd.prog 30 #[.int .u16 (p.2.k : Int), .int .u16 0] w fun e w' => e = .returned (.bool false) ∧ w' = w := fun w => by
    have h1 := sna16LT_near p.2.k 0 w (by omega) (by omega)
    rw [decide_eq_false (by omega)] at h1
    exact h1.mono fun e w' h => ⟨h.1, h.2.symm⟩
  have HL := Lib.hid hlt
  clear h hp hrow hlt
  go_enter Tryd.func16, Tryd.ntmps16
  go_wp2_with fail
  refine (isid_any p.1 _ _ _ _ _ _ _ _ w HR.out).mono ?_
  rintro z w1 ⟨rfl, rfl⟩
  go_wp2_with fail
  go_quiet (fail)
  have HQ2 := Lib.hid (HQ.out.drewN nq)
  have HP2 := Lib.hid (HP.out.drewN nq)
  clear q0 q1 q3 q11 q12 qf c4 c8 c9 c10 c13 c14 hn HQ HP HR
  generalize w.drewN nq = W at HQ2 HP2 ⊢
  obtain ⟨q0, q1, q3, q11, q12, qf⟩ := HQ2.out.cells
  obtain ⟨A, n, cap, c4, c8, c9, c10, c13, c14, hn⟩ := HP2.out.cells
  go_wp2_with fail
  go_quiet ((go_at_call 30; exact Calls.quiet_of_same (HL.out _)))
  have HQ3 := Lib.hid (HQ2.out.drewN nq)
  have HP3 := Lib.hid (HP2.out.drewN nq)
  clear q0 q1 q3 q11 q12 qf c4 c8 c9 c10 c13 c14 hn HQ2 HP2 HL
  generalize W.drewN nq = X at HQ3 HP3 ⊢
  obtain ⟨q0, q1, q3, q11, q12, qf⟩ := HQ3.out.cells
  obtain ⟨A, n, cap, c4, c8, c9, c10, c13, c14, hn⟩ := HP3.out.cells
  have f3 := qf 3
  have f11 := qf 11
  obtain ⟨A2, n2, cap2, hrow, _⟩ := id HP3.out
  have HR := Lib.hid hrow
  obtain ⟨G2, G3, G4, mp, mq, hqrow⟩ := HQ3.out.q
  have HQR := Lib.hid hqrow
  clear hrow hqrow
  go_wp2_with fail
  refine (isfr_any p.1 _ _ _ _ _ _ _ _ X HR.out).mono ?_
  rintro z w2 ⟨rfl, rfl⟩
  rw [hfr]
  obtain ⟨m0, hm0⟩ : ∃ m0, m0 = (P1 ++ s :: P2).length := ⟨_, rfl⟩
  have hro := Rd.of_own HQ3.out.ov
  rw [← hm0] at hro
  obtain ⟨A0, cp0, hv0, hnc0, hcm0, hl00, h00, hc0⟩ := hro
  rw [hv0] at q3
  have HV0 := Lib.hid hv0
  clear hv0
  have HC0 := Lib.hid hc0
  have Hm0 := Lib.hid hm0
  clear hl00 h00 hc0 hm0
  unfold maxLen at hcm0
  go_wp2_with fail
  clear c4 c8 c9 c13 c14 q0 q1 q11 q12 qf f3 f11 HR HQR hn
  go_loopw [6, 96] (fun c i wr => ∃ j : Nat, j ≤ P1.length ∧ i = .int .i64 (j : Int) ∧ c = .pointer none ∧ ∃ q, wr = X.drewN q) (fun _ i _ => m0 - (intOf i).toNat)
  case atStart => exact ⟨0, Nat.zero_le _, rfl, rfl, 0, rfl⟩
  case round =>
    obtain ⟨j, hj, rfl, rfl, nq0, rfl⟩ := hrel
    have hlm : P1.length < m0 := by rw [Hm0.out]; simp
    obtain ⟨g, o, hA0, hg⟩ := HC0.out (by omega)
    subst hA0
    by_cases hlt : j < P1.length
    · have hlk : j < (P1 ++ s :: P2).length := by have := Hm0.out; omega
      have hx : (P1 ++ s :: P2)[j]? = some P1[j] := by rw [List.getElem?_append_left hlt, List.getElem?_eq_getElem hlt]
      have hmem := List.getElem_mem hlt
      generalize P1[j] = x at hx hmem
      have hcx := hg j (stp x) (by simp only [List.getElem?_map, hx, Option.map_some])
      have hkx := (Row.three (HQ3.out.sets x (List.mem_append_left _ hmem)).row).1
      have hne := hno x hmem
      unfold stp rp at hcx
      simp only at hcx
      have hnk : ((x.k : Int) == (p.2.k : Int)) = false := by rw [beq_eq_false_iff_ne]; omega
      generalize x.sb = gx at hcx hkx
      generalize x.k = kx at hkx hnk
      clear hx hmem hg hne
      go_wp2_with fail
      go_quiet (fail)
      go_wp2
      exact ⟨⟨j + 1, by omega, by go_num, rfl, _, rfl⟩, by simp [intOf]; omega⟩
    · obtain rfl : j = P1.length := by omega
      have hcx := hg P1.length (stp s) (by simp only [List.getElem?_map, List.getElem?_append_right (Nat.le_refl _), Nat.sub_self, List.getElem?_cons_zero, Option.map_some])
      unfold stp rp at hcx
      simp only at hcx
      have HQ4 := Lib.hid (HQ3.out.drewN nq0)
      have HP4 := Lib.hid (HP3.out.drewN nq0)
      have hcx' : (X.drewN nq0).cell? ⟨g, o + P1.length, none⟩ = some (.pointer (some ⟨s.sb, 0, none⟩)) := hcx
      clear q3 c10 HQ3 HP3 hg hcx
      generalize X.drewN nq0 = Y at HQ4 HP4 hcx' ⊢
      have hS := HQ4.out.sets s (by simp)
      obtain ⟨k0, k1, k2⟩ := Row.three hS.row
      have hrs := Rd.of_own hS.own
      obtain ⟨A9, cp9, hv9, hnc9, hcm9, _, _, hc9⟩ := hrs
      have hpos9 : 0 < s.cs.length := (List.getElem?_eq_some_iff.1 hc0).1
      obtain ⟨g9, o9, rfl, hg9⟩ := hc9 (by omega)
      have hc9x := hg9 0 (ckp c0) (by simp [hc0])
      rw [Nat.add_zero] at hc9x
      unfold ckp rp ckr at hc9x
      simp only at hc9x
      rw [hv9] at k2
      have hck0 := hS.cks c0 (List.mem_of_getElem? hc0)
      obtain ⟨A8, n8, cap8, hrow8, _⟩ := id hck0
      have hfr8 : ∀ m, Calls Tryd.prog 31 #[.pointer (some ⟨c0.1, 0, none⟩)] (Y.drewN m) fun e w' => e = .returned (.bool true) ∧ w' = Y.drewN m := fun m => by
        have h1 := isfr_any c0.1 _ _ _ _ _ _ _ _ (Y.drewN m) (hrow8.drewN m)
        rw [hf0] at h1
        exact h1.mono fun e w' h => ⟨h.1, h.2.symm⟩
      have HF8 := Lib.hid hfr8
      rw [hsk] at k0
      obtain ⟨ns, hns⟩ : ∃ ns, ns = s.cs.length := ⟨_, rfl⟩
      rw [← hns] at k2 hpos9 hnc9
      have Hns := Lib.hid hns
      obtain ⟨_, _, _, c4, _, _, c10, _, _, _⟩ := HP4.out.cells
      clear hS hc9 hg9 hck0 hrow8 hfr8 hv9 k1 hns c4
      obtain ⟨gs, hgs⟩ : ∃ gs, gs = s.sb := ⟨_, rfl⟩
      rw [← hgs] at hcx' k0 k2
      have Hgs := Lib.hid hgs
      clear hgs
      go_wp2_with fail
      go_quiet ((go_at_call 31; exact Calls.quiet_of_same (HF8.out _)))
      have HQ5 := Lib.hid (HQ4.out.drewN nq)
      have HP5 := Lib.hid (HP4.out.drewN nq)
      clear HQ4 HP4 HF8 k0 k2 hcx' hc9x c10
      generalize Y.drewN nq = Z at HQ5 HP5 ⊢
      obtain ⟨A7, n7, cap7, c4, c8, c9, c10, c13, c14, hn⟩ := HP5.out.cells
      go_wp2_with fail
      obtain ⟨q0, q1, q3, q11, q12, qf⟩ := HQ5.out.cells
      obtain ⟨H2, H3, H4, mp, mq, hqrow⟩ := HQ5.out.q
      have HQR := Lib.hid hqrow
      have f11 := qf 11
      clear hqrow
      rw [Hgs.out]
      refine (hastsn_any first st B w0 s p.2.t Z (HQ5.out.sets s (by simp)) (by omega) (by omega) (fun c hc => ⟨by have := (hst c hc).1; omega, (hst c hc).2⟩)).mono ?_
      rintro z w2 ⟨rfl, rfl⟩
      go_wp2_with fail
      refine (hdl_any Q _ _ _ _ _ _ _ _ _ _ _ Z HQR.out).mono ?_
      rintro z w2 ⟨rfl, rfl⟩
      go_upto_region 36 with fail
      refine wp_region_tail 9 (by kernel_rfl) (by kernel_rfl) ?_
      simp only [List.take_succ_cons, List.take_zero, List.drop_succ_cons, List.drop_zero]
      repeat still_step
      refine wpStill_nil ?_
      have ha := fun y => run_add64 (y := y) (w := Z.drew) q11 (qf 11)
      go_wp2_with fail
      have hQ8 := (HQ5.out.nbytes (nb' := IntKind.u64.wrap (nb + IntKind.u64.wrap (n7 : Int)))).bstep ((Below.refl _ _).drew)
      have hP8 := (HP5.out.step (only_set (only_refl Z Q) 11 (.int .u64 (IntKind.u64.wrap (nb + IntKind.u64.wrap (n7 : Int))))) HQ5.out.q.rt (by decide)).below ((Below.refl _ _).drew)
      have HQ8 := Lib.hid hQ8
      have HP8 := Lib.hid hP8
      clear hQ8 hP8 q0 q1 q3 q11 q12 qf c4 c8 c9 c10 c13 c14 hn ha HQ5 HP5 HQR f11
      refine (pushnd_any first st B w0 s p _ hf (HQ8.out.sets s (by simp)) HP8.out (by omega) (fun c hc => by
        rcases List.mem_append.1 hc with h1 | h1
        · exact (hst c h1).1
        · obtain rfl := List.mem_singleton.1 h1
          exact hpt) HQ8.out.size).mono ?_
      intro z w9 hadd
      obtain ⟨⟨b, rfl⟩, rv', cs', pc, pw, hQ9⟩ := HQ8.out.added hadd
      have HQ9 := Lib.hid hQ9
      clear hadd hQ9
      go_wp2
      go_ret2
      exact ⟨⟨b, rfl⟩, _, _, rv', cs', pc, pw, HQ9.out⟩
end Go.Proofs.YtnlkmcbhhljajaaDoor
