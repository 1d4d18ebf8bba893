/- The contract of read at a message that is whole. Conditions: it is the next one; the buffer is long enough. -/
import Derived.Test.YtnlkmcbhhljajaaDoorRaW
import Derived.OwnWalk
namespace Go.Proofs.YtnlkmcbhhljajaaDoor
open Go.RowKit Go.Lib

/-- What reading a message leaves. -/
def ReadOne (first st B Q : Nat) (w0 : World) (g0 c0 j : Nat) (Gs : List MSet) (l : List UInt8) (gb : Nat) (w : World) (z : Ending) (w' : World) : Prop :=
  z = .returned (.tuple #[.int .i64 (l.length : Nat), .int .u32 ((50 + j : Nat) : Int), .nilIface]) ∧ ∃ nb', RSt first st B Q w0 w' g0 c0 (j + 1) (j + 1) nb' Gs ∧ Row w' gb 5 (buf 4096 l) ∧ ∃ w1, w.grownBy w1 (some gb) ∧ w1.grownBy w' (some Q)

theorem cut_bytes (g p : Nat) (w : World) (hp : p < 4096) : (Instr.slice 26 (.slice (some ⟨g, 0, none⟩) 4096 4096) (some (.int .i64 (p : Int))) none none).run Tryd.prog w = .ok (.slice (some ⟨g, p, none⟩) (4096 - p) (4096 - p)) w := by
  have hs : (sizeOf (Tryd.prog.elem 26)).run Tryd.prog w = .ok 1 w := by kernel_rfl
  rw [run_slice_l w _ _ _ _ (by kernel_rfl) .i64 _ (by omega) (by omega), hs]
  have hne : ¬ (4096 = p) := by omega
  simp [sliced, Result.andThen, hne, Addr.add]
  exact fun h => h.symm

theorem cut_sets (g o r c : Nat) (hr : 0 < r) : ∃ A, (2 ≤ c → A = some ⟨g, o + 1, none⟩) ∧ ∀ w, (Instr.slice 55 (.slice (some ⟨g, o, none⟩) r c) (some (.int .i64 1)) none none).run Tryd.prog w = .ok (.slice A (r - 1) (c - 1)) w := by
  refine ⟨if c = 1 then some ⟨g, o, none⟩ else some ⟨g, o + 1, none⟩, fun h => by rw [if_neg (by omega)], fun w => ?_⟩
  have hs : (sizeOf (Tryd.prog.elem 55)).run Tryd.prog w = .ok 1 w := by kernel_rfl
  rw [run_slice_l w _ _ _ _ (by kernel_rfl) .i64 _ (by omega) (by omega), hs]
  simp [sliced, Result.andThen, Addr.add]

set_option maxRecDepth 20000 in
set_option maxHeartbeats 1600000 in
theorem read_any (first st B Q : Nat) (w0 w : World) (g0 c0 j : Nat) (nb : Int) (Gs : List MSet) (s : MSet) (gb : Nat) (h : RSt first st B Q w0 w g0 c0 j j nb Gs) (hs : Gs[j]? = some s) (hk : s.k = j) (hj : j ≤ 1000) (hw : Whole s.cs)
    (hl : s.cs.length ≤ 10000) (ht : ∀ c ∈ s.cs, c.2.t ≤ 5000) (hm : (joined s.cs).length ≤ 4000) (hb : Row w gb 5 (buf 4096 [])) (hg : w0.heap.size ≤ gb) (hn : Gs.length ≤ 1000) :
    Calls Tryd.prog 15 #[.pointer (some ⟨Q, 0, none⟩), .slice (some ⟨gb, 0, none⟩) 4096 4096] w (ReadOne first st B Q w0 g0 c0 j Gs (joined s.cs) gb w) := by
  have hjn := (List.getElem?_eq_some_iff.1 hs).1
  obtain ⟨Ao, co, hq, ha⟩ := id h.q
  obtain ⟨rfl, hrc, hcm⟩ := ha hjn
  obtain ⟨G2, q1, q3, q4, q10, qf⟩ := hq.cells
  have hat := h.at hs
  have hsm := List.mem_of_getElem? hs
  have hsA := h.sets s hsm
  obtain ⟨s0, s1, s2⟩ := Row.three hsA.row
  obtain ⟨r, hr⟩ : ∃ r, r = Gs.length - j := ⟨_, rfl⟩
  rw [← hr] at q3 hrc
  have hrp : 0 < r := by omega
  have hrn : r ≤ 1000 := by omega
  unfold stp rp at hat
  simp only at hat
  have HH := Lib.hid h
  have HS := Lib.hid hsA
  have HB := Lib.hid hb
  have Hr := Lib.hid hr
  have HW := Lib.hid hw
  have HT := Lib.hid ht
  have HM := Lib.hid hm
  have Hs := Lib.hid hsm
  have HK := Lib.hid hk
  rw [hk] at s0 s1
  have hgt : ∀ w, Calls Tryd.prog 21 #[.int .u16 (j : Int), .int .u16 (j : Int)] w fun e w' => e = .returned (.bool false) ∧ w' = w := fun w => by
    have h1 := sna16GT_near j j w (by omega) (by omega)
    rw [decide_eq_false (by omega)] at h1
    exact h1.mono fun e w' h => ⟨h.1, h.2.symm⟩
  have HL := Lib.hid hgt
  clear h hsA hb hr hw ht hm hs hq ha hsm hgt hk
  unfold maxLen at hcm
  go_enter Tryd.func15, Tryd.ntmps15
  go_wp2_with fail
  refine (iscomplete_any first st B w0 s w HS.out (by omega) (HW.out.1) HT.out).mono ?_
  rintro z w1 ⟨b, rfl, rfl, hb⟩
  obtain rfl := hb HW.out
  clear hb
  go_wp2_with fail
  go_quiet ((go_at_call 21; exact Calls.quiet_of_same (HL.out _)))
  have HH2 := Lib.hid (HH.out.drewN nq)
  have HB2 := Lib.hid (HB.out.drewN nq)
  have HG2 := Lib.hid (only_drewN (only_refl w (some gb)) nq)
  clear q1 q3 q4 q10 qf hat s0 s1 s2 HH HB HS HL
  generalize w.drewN nq = W at HH2 HB2 HG2 ⊢
  obtain ⟨s0, s1, s2⟩ := Row.three (HH2.out.sets s Hs.out).row
  obtain ⟨m, hm⟩ : ∃ m, m = s.cs.length := ⟨_, rfl⟩
  have hmp : 0 < m := by rw [hm]; exact List.length_pos_iff.2 HW.out.1
  obtain ⟨g1, cp1, hrv⟩ : ∃ g1 cp1, s.rv = .slice (some ⟨g1, 0, none⟩) m cp1 := by
    rcases (HH2.out.sets s Hs.out).own.2 with ⟨_, e⟩ | ⟨g, cap, cur, e, _⟩
    · omega
    · exact ⟨g, cap, by rw [hm]; exact e⟩
  rw [hrv] at s2
  have Hm := Lib.hid hm
  have HRV := Lib.hid hrv
  have hml : m ≤ 10000 := by omega
  clear hm hrv hl
  go_wp2_with fail
  clear s0 s1 s2
  go_loopw [9, 10, 15, 199] (fun t e c i wr => ∃ q p : Nat, q ≤ m ∧ p ≤ 4000 ∧ i = .int .i64 (q : Int) ∧ e = .nilIface ∧ t = .int .i64 (p : Int) ∧ Hid (p = (joined (s.cs.take q)).length) ∧ Hid (RSt first st B Q w0 wr g0 c0 j j nb Gs) ∧ Hid (Row wr gb 5 (buf 4096 (joined (s.cs.take q)))) ∧ Hid (w.grownBy wr (some gb))) (fun _ _ _ i _ => m - (intOf i).toNat)
  case atStart => exact ⟨0, 0, Nat.zero_le _, Nat.zero_le _, rfl, rfl, rfl, Lib.hid rfl, HH2, HB2, HG2⟩
  case round =>
    obtain ⟨q, p, hq, hp, rfl, rfl, rfl, HP, HH3, HB3, HG3⟩ := hrel
    by_cases hlt : q < m
    · have hlk : q < s.cs.length := by have := Hm.out; omega
      have hx : s.cs[q]? = some s.cs[q] := List.getElem?_eq_getElem hlk
      generalize s.cs[q] = x at hx
      have hsx := HH3.out.sets s Hs.out
      have hown := Rd.of_own hsx.own
      obtain ⟨A', c', e1, _, _, _, _, hc⟩ := hown
      rw [HRV.out] at e1
      injection e1 with e1 e4 e5
      obtain ⟨g2, o2, e2, hg2⟩ := hc (by omega)
      rw [← e1] at e2
      injection e2 with e2
      injection e2 with e2 e3 e6
      subst e2 e3
      clear e4 e5 e6
      have hcx := hg2 q (ckp x) (by simp [hx])
      rw [Nat.zero_add] at hcx
      obtain ⟨A2, n2, cap2, hrow, hsl⟩ := hsx.cks x (List.mem_of_getElem? hx)
      have hlen := hsl.len
      have hsl3 := hsl.below HH3.out.below
      have c14 : wr.cell? ⟨x.1, 14, none⟩ = some (.slice A2 n2 cap2) := by rw [hrow.cell]; rfl
      have hjt := joined_take hx
      have hjm := joined_le s.cs (q + 1)
      have hpn : p + n2 ≤ 4000 := by
        have h1 := HM.out
        have h2 := HP.out
        rw [hjt, List.length_append] at hjm
        omega
      unfold ckp rp ckr at hcx
      simp only at hcx
      have HX := Lib.hid hx
      have HR := Lib.hid hrow
      have HSL := Lib.hid hsl3
      have HLEN := Lib.hid hlen
      have HJT := Lib.hid hjt
      generalize hgx : x.1 = gx at hcx c14
      have HGX := Lib.hid hgx
      clear hx hsx e1 hc hg2 hrow hsl hlen hsl3 hjt hjm hgx
      have hlt1 : ¬ ((4096 : Int) - (p : Int) < (n2 : Int)) := by omega
      go_wp2_with fail
      refine wp_region_tail 7 (by kernel_rfl) (by kernel_rfl) ?_
      simp only [List.take_succ_cons, List.take_zero, List.drop_succ_cons, List.drop_zero]
      have hcut : ∀ w1, (Instr.slice 26 (.slice (some ⟨gb, 0, none⟩) 4096 4096) (some (.int .i64 (p : Int))) none none).run Tryd.prog w1 = .ok (.slice (some ⟨gb, p, none⟩) (4096 - p) (4096 - p)) w1 := fun w1 => cut_bytes _ _ _ (by omega)
      repeat still_step
      refine wpStill_nil ?_
      refine wpList_copy_in rfl _ _ _ _ rfl 5 Tryd.underlying26 (by kernel_rfl) gb p (4096 - p) (4096 - p) rfl _ n2 (bvs x.2.u) rfl (by have h1 := HSL.out.drew; unfold Sl at h1; rw [← HLEN.out] at h1; exact h1) (buf 4096 (joined (s.cs.take q))) 5 HB3.out.drew (by omega) (by rw [buf_length (by rw [← HP.out]; omega)]; omega) (bvs_one _) ?_
      intro w5 hrow5 hg5
      have hg5' : wr.grownBy w5 (some gb) := ⟨hg5.os, hg5.tape, hg5.output, hg5.size, hg5.block⟩
      have hR5 := HH3.out.bytes hg5' HB3.out hg
      have hx5 := HR.out.grown hg5' ((RT.of_row HB3.out).row HR.out (by decide)).symm
      have c14' : w5.cell? ⟨gx, 14, none⟩ = some (.slice A2 n2 cap2) := by rw [← HGX.out, hx5.cell]; rfl
      have hG5 := only_trans HG3.out hg5'
      have hB5 : Row w5 gb 5 (buf 4096 (joined (s.cs.take (q + 1)))) := by
        rw [HJT.out, ← buf_splice (by rw [← HP.out, ← HLEN.out]; omega), ← HP.out]
        exact hrow5
      have hP5 : p + n2 = (joined (s.cs.take (q + 1))).length := by rw [HJT.out, List.length_append, ← HP.out, HLEN.out]
      have HR5 := Lib.hid hR5
      have HG5 := Lib.hid hG5
      have HB5 := Lib.hid hB5
      have HP5 := Lib.hid hP5
      clear hg5 hrow5 hg5' hR5 hx5 hG5 hB5 hP5 hcut c14 hcx hlt1 HR HSL HLEN HJT HGX HX HB3 HH3 HG3
      go_wp2
      exact ⟨⟨q + 1, p + n2, by omega, hpn, by go_num, rfl, by go_num, HP5, HR5, HB5, HG5⟩, by simp [intOf]; omega⟩
    · obtain rfl : q = m := by omega
      have hcs : s.cs.take q = s.cs := by rw [Hm.out]; exact List.take_length
      rw [hcs] at HP HB3
      obtain ⟨A3, c3, hq3, ha3⟩ := id HH3.out.q
      obtain ⟨rfl, hrc3, hcm3⟩ := ha3 hjn
      rw [← Hr.out] at hq3 hrc3
      obtain ⟨G3, q1, q3, q4, q10, qf⟩ := hq3.cells
      have f3 := qf 3
      obtain ⟨A4, ha4, hcut⟩ := cut_sets g0 j r c3 hrp
      clear hcs hq3 ha3 q4 q10
      go_upto_region 54 with fail
      have hcm4 : c3 ≤ maxLen := hcm3
      have HH4 := Lib.hid (HH3.out.take (A := A4) (c := c3 - 1) (n := r - 1) (by have := Hr.out; omega) (fun hlt => ⟨ha4 (by have := Hr.out; omega), by have := Hr.out; omega, by omega⟩))
      have HG4 := Lib.hid (only_set (only_refl wr Q) 3 (.slice A4 (r - 1) (c3 - 1)))
      clear q1 q3 qf f3 ha4 hcut hrc3 hcm3 hcm4
      generalize wr.setCell ⟨Q, 3, none⟩ (.slice A4 (r - 1) (c3 - 1)) = W4 at HH4 HG4 ⊢
      obtain ⟨A6, c6, hq6, _⟩ := id HH4.out.q
      obtain ⟨G6, q1, _, _, _, qf⟩ := hq6.cells
      obtain ⟨s0, s1, s2⟩ := Row.three (HH4.out.sets s Hs.out).row
      rw [HK.out] at s0
      clear hq6 s1 s2
      go_quiet (fail)
      have HH5 := Lib.hid (HH4.out.drewN nq)
      have HG5 := Lib.hid (only_drewN HG4.out nq)
      clear q1 qf s0 HH4 HG4
      generalize W4.drewN nq = W5 at HH5 HG5 ⊢
      obtain ⟨A7, c7, hq7, _⟩ := id HH5.out.q
      obtain ⟨G7, q1, _, _, _, qf⟩ := hq7.cells
      have f1 := qf 1
      clear hq7 qf
      have hnx : IntKind.u16.wrap ((j : Int) + 1) = ((j + 1 : Nat) : Int) := by simp [IntKind.wrap, IntKind.bits, IntKind.signed]; omega
      go_upto_region 60 with fail
      have e1 : ((j + 1 : Nat) : Int) = (j : Int) + 1 := by omega
      have h6 := HH5.out.next (n' := j + 1)
      have g6 := only_set HG5.out 1 (.int .u16 ((j + 1 : Nat) : Int))
      rw [e1] at h6 g6
      have HH6 := Lib.hid h6
      have HG6 := Lib.hid g6
      clear q1 f1 HH5 HG5 h6 g6 hnx e1
      generalize W5.setCell ⟨Q, 1, none⟩ (.int .u16 ((j : Int) + 1)) = W6 at HH6 HG6 ⊢
      obtain ⟨A8, c8, hq8, _⟩ := id HH6.out.q
      have HQ8 := Lib.hid hq8
      clear hq8
      go_wp2_with fail
      refine (subnb_any Q st (j + 1) _ nb _ W6 HQ8.out).mono ?_
      rintro z w7 ⟨rfl, nb', rfl⟩
      have HH7 := Lib.hid (HH6.out.nbytes (nb' := nb'))
      have HG7 := Lib.hid (only_set HG6.out 11 (.int .u64 nb'))
      clear HH6 HG6 HQ8
      generalize W6.setCell ⟨Q, 11, none⟩ (.int .u64 nb') = W7 at HH7 HG7 ⊢
      obtain ⟨s0, s1, s2⟩ := Row.three (HH7.out.sets s Hs.out).row
      rw [HK.out] at s1
      clear s0 s2
      have HB7 := Lib.hid (HB3.out.grown HG7.out (by
        intro e
        injection e with e
        obtain ⟨A9, c9, hq9, _⟩ := id HH3.out.q
        subst e
        exact hq9.rt.row HB3.out (by decide) rfl))
      go_wp2_with fail
      go_quiet (fail)
      go_wp2
      go_ret3
      rw [HP.out]
      exact ⟨rfl, nb', HH7.out.drewN _, HB7.out.drewN _, wr, HG3.out, only_drewN HG7.out _⟩
end Go.Proofs.YtnlkmcbhhljajaaDoor
