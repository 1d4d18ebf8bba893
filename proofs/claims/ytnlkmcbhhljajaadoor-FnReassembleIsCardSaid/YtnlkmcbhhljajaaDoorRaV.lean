/- The contract of pushWithError. Conditions: the chunk's number is new; few chunks. -/
import Derived.Test.YtnlkmcbhhljajaaDoorRaQ
namespace Go.Proofs.YtnlkmcbhhljajaaDoor
open Go.RowKit Go.Lib

theorem stT : ElT Tryd.prog 55 69 (.pointer none) 1 8 := ⟨Tryd.underlying55, by kernel_rfl, rfl, by decide⟩
theorem QSt.drewN {first st B Q : Nat} {w0 w : World} {ov : Value} {nb : Int} {Gs : List MSet} (h : QSt first st B Q w0 w ov nb Gs) (q : Nat) : QSt first st B Q w0 (w.drewN q) ov nb Gs := h.bstep (below_drewN (Below.refl _ _) q)
theorem ChunkAt.drewN {first st : Nat} {w0 w : World} {c : Ck} (h : ChunkAt first st w0 w c) (q : Nat) : ChunkAt first st w0 (w.drewN q) c := h.below (below_drewN (Below.refl _ _) q)
theorem QSt.cells {first st B Q : Nat} {w0 w : World} {ov : Value} {nb : Int} {Gs : List MSet} (h : QSt first st B Q w0 w ov nb Gs) :
    w.cell? ⟨Q, 0, none⟩ = some (.int .u16 (st : Int)) ∧ w.cell? ⟨Q, 1, none⟩ = some (.int .u16 0) ∧ w.cell? ⟨Q, 3, none⟩ = some ov ∧ w.cell? ⟨Q, 11, none⟩ = some (.int .u64 nb) ∧ w.cell? ⟨Q, 12, none⟩ = some (.int .u32 0) ∧ ∀ i, w.frozen? ⟨Q, i, none⟩ = false := by
  obtain ⟨G2, G3, G4, mp, mq, hrow⟩ := h.q
  have hf := fun i => hrow.frozen i
  simp only [hrow.cell]
  exact ⟨rfl, rfl, rfl, rfl, rfl, hf⟩
theorem ChunkAt.cells {first st : Nat} {w0 w : World} {c : Ck} (h : ChunkAt first st w0 w c) : ∃ A n cap,
    w.cell? ⟨c.1, 4, none⟩ = some (.bool false) ∧ w.cell? ⟨c.1, 8, none⟩ = some (.int .u32 (tsnOf first c.2.t : Nat)) ∧ w.cell? ⟨c.1, 9, none⟩ = some (.int .u16 (st : Int)) ∧ w.cell? ⟨c.1, 10, none⟩ = some (.int .u16 (c.2.k : Int)) ∧ w.cell? ⟨c.1, 13, none⟩ = some (.int .u32 ((50 + c.2.k : Nat) : Int)) ∧ w.cell? ⟨c.1, 14, none⟩ = some (.slice A n cap) ∧ n ≤ maxLen := by
  obtain ⟨A, n, cap, hrow, hs⟩ := h
  have hn : n ≤ maxLen := by
    obtain ⟨A', c', hv, h1, h2, _⟩ := hs
    injection hv with _ e _
    omega
  refine ⟨A, n, cap, ?_⟩
  simp only [hrow.cell]
  exact ⟨rfl, rfl, rfl, rfl, rfl, rfl, hn⟩

/-- A chunk has come of a message of which none had. -/
def Pushed1 (first st B Q : Nat) (w0 : World) (Gs : List MSet) (p : Ck) (z : Ending) (w' : World) : Prop :=
  (∃ b, z = .returned (.tuple #[.bool b, .nilIface])) ∧ ∃ ov' nb' Gs' G1 G2 sb rv rv' cs', Gs'.Perm (Gs ++ [⟨sb, p.2.k, rv, []⟩]) ∧ Gs' = G1 ++ ⟨sb, p.2.k, rv, []⟩ :: G2 ∧ Gs'.Pairwise (fun a b => a.k ≤ b.k) ∧ cs'.Perm [p] ∧ QSt first st B Q w0 w' ov' nb' (G1 ++ ⟨sb, p.2.k, rv', cs'⟩ :: G2)

set_option maxRecDepth 20000 in
set_option maxHeartbeats 1600000 in
theorem push_one (first st B Q : Nat) (w0 w : World) (ov : Value) (nb : Int) (Gs : List MSet) (p : Ck) (hf : first < 4294967296) (h : QSt first st B Q w0 w ov nb Gs) (hp : ChunkAt first st w0 w p) (hl : Gs.length ≤ 1000) (hk : ∀ s ∈ Gs, s.k ≤ 1000) (hpk : p.2.k ≤ 1000) (hpt : p.2.t ≤ 5000)
    (hfr : (p.2.b && p.2.e) = true) (hB : B ≤ w.heap.size) :
    Calls Tryd.prog 16 #[.pointer (some ⟨Q, 0, none⟩), .pointer (some ⟨p.1, 0, none⟩)] w (Pushed1 first st B Q w0 Gs p) := by
  obtain ⟨q0, q1, q3, q11, q12, qf⟩ := h.cells
  obtain ⟨A, n, cap, c4, c8, c9, c10, c13, c14, hn⟩ := hp.cells
  have HQ := Lib.hid h
  have HP := Lib.hid hp
  obtain ⟨A1, n1, cap1, hrow, _⟩ := id hp
  have HR := Lib.hid hrow
  have hlt : ∀ w, Calls Tryd.prog 30 #[.int .u16 (p.2.k : Int), .int .u16 0] w fun e w' => e = .returned (.bool false) ∧ w' = w := fun w => by
    have h1 := sna16LT_near p.2.k 0 w (by omega) (by omega)
    rw [decide_eq_false (by omega)] at h1
    exact h1.mono fun e w' h => ⟨h.1, h.2.symm⟩
  have HL := Lib.hid hlt
  clear h hp hrow hlt
  go_enter Tryd.func16, Tryd.ntmps16
  go_wp2_with fail
  refine (isid_any p.1 _ _ _ _ _ _ _ _ w HR.out).mono ?_
  rintro z w1 ⟨rfl, rfl⟩
  go_wp2_with fail
  go_quiet (fail)
  have HQ2 := Lib.hid (HQ.out.drewN nq)
  have HP2 := Lib.hid (HP.out.drewN nq)
  clear q0 q1 q3 q11 q12 qf c4 c8 c9 c10 c13 c14 hn HQ HP HR
  generalize w.drewN nq = W at HQ2 HP2 ⊢
  obtain ⟨q0, q1, q3, q11, q12, qf⟩ := HQ2.out.cells
  obtain ⟨A, n, cap, c4, c8, c9, c10, c13, c14, hn⟩ := HP2.out.cells
  go_wp2_with fail
  go_quiet ((go_at_call 30; exact Calls.quiet_of_same (HL.out _)))
  have HQ3 := Lib.hid (HQ2.out.drewN nq)
  have HP3 := Lib.hid (HP2.out.drewN nq)
  clear q0 q1 q3 q11 q12 qf c4 c8 c9 c10 c13 c14 hn HQ2 HP2 HL
  generalize W.drewN nq = X at HQ3 HP3 ⊢
  obtain ⟨q0, q1, q3, q11, q12, qf⟩ := HQ3.out.cells
  obtain ⟨A, n, cap, c4, c8, c9, c10, c13, c14, hn⟩ := HP3.out.cells
  have f3 := qf 3
  have f11 := qf 11
  obtain ⟨A2, n2, cap2, hrow, _⟩ := id HP3.out
  have HR := Lib.hid hrow
  obtain ⟨G2, G3, G4, mp, mq, hqrow⟩ := HQ3.out.q
  have HQR := Lib.hid hqrow
  clear hrow hqrow
  go_wp2_with fail
  refine (isfr_any p.1 _ _ _ _ _ _ _ _ X HR.out).mono ?_
  rintro z w2 ⟨rfl, rfl⟩
  rw [hfr]
  go_wp2_with fail
  refine (hdl_any Q _ _ _ _ _ _ _ _ _ _ _ X HQR.out).mono ?_
  rintro z w2 ⟨rfl, rfl⟩
  go_wp2_with fail
  refine wp_region_tail 8 (by kernel_rfl) (by kernel_rfl) ?_
  simp only [List.take_succ_cons, List.take_zero, List.drop_succ_cons, List.drop_zero]
  repeat still_step
  refine wpStill_nil ?_
  go_wp2_with fail
  refine (newset_any p.2.k (50 + p.2.k) _).mono ?_
  rintro z w3 ⟨gs, rfl, rs, ro, b3, hgs⟩
  have hQ3 := (HQ3.out.bstep ((Below.refl _ X).drew)).bstep b3
  have hP3 := (HP3.out.below ((Below.refl _ X).drew)).below b3
  have hzX : w0.heap.size ≤ X.heap.size := HQ3.out.below.size
  have hBX := HQ3.out.size
  have hown0 : w3.ownsRow B 48 1 (.slice (some ⟨X.drew.heap.size, 0, none⟩) 0 0) 0 [] := ro.own (by show B ≤ X.heap.size; exact hBX) rfl (Nat.zero_le _)
  generalize hG : X.drew.heap.size = GX at rs ro hgs hown0
  have hGX : X.heap.size = GX := hG
  have hS3 : SetAt first st B w0 w3 ⟨gs, p.2.k, .slice (some ⟨GX, 0, none⟩) 0 0, []⟩ := ⟨rs, hown0, fun c hc => by cases hc⟩
  have hlo : ∀ a ∈ Gs, a.sb < GX ∧ ∀ j, a.rv.ownBlock = some j → j < GX := fun a ha => by
    have hsa := HQ3.out.sets a ha
    have h1 := hsa.row.lt
    exact ⟨by omega, fun j hj => by have := (hsa.own.lt j hj).2; omega⟩
  obtain ⟨m, hm⟩ : ∃ m, m = Gs.length := ⟨_, rfl⟩
  have Hm := Lib.hid hm
  have HQ4 := Lib.hid hQ3
  have HP4 := Lib.hid hP3
  have HS4 := Lib.hid hS3
  have HLO := Lib.hid hlo
  have HRO := Lib.hid ro
  obtain ⟨q0', q1', q3', q11', q12', qf'⟩ := hQ3.cells
  have hB3 := hQ3.size
  have f3' := qf' 3
  have hm1 : m ≤ 1000 := by omega
  clear q0 q1 q3 q11 q12 qf c4 c8 c9 c10 c13 c14 hn HR HQR f3 f11 hQ3 hP3 hS3 hlo rs ro hm hown0 HQ3 HP3
  go_wp2_with (at_builtin; refine wpList_append_rd _ rfl _ _ rfl stT B ov m (Gs.map stp) rfl ((by rw [Hm.out]; exact HQ4.out.ov : w3.ownsRow B 69 1 ov m (Gs.map stp)).alloc _) _ 1 [_] rfl (Rd.lit w3 69 [.pointer (some ⟨gs, 0, none⟩)] 1 rfl (by omega)) ?c1 ?c2 ?c3 ?c4 ?_)
  case c1 => simp [Value.oneCell']
  case c2 => unfold maxLen; omega
  case c3 => omega
  case c4 => rw [World.size_alloc]; omega
  intro v5 w5 hown5 hg5 hat5
  obtain ⟨A5, c5, e5⟩ := own_slice hown5
  subst e5
  have hQa := HQ4.out.bstep ((Below.refl w3.heap.size w3).alloc (Nat.le_refl _) (.cells #[.pointer (some ⟨gs, 0, none⟩)] 69))
  have hPa := HP4.out.alloc (.cells #[.pointer (some ⟨gs, 0, none⟩)] 69)
  have hSa := HS4.out.below ((Below.refl w3.heap.size w3).alloc (Nat.le_refl _) (.cells #[.pointer (some ⟨gs, 0, none⟩)] 69))
  have hq5 := hQa.q.step hg5 (RT.of_own hQa.ov) (by decide)
  obtain ⟨y3, z3⟩ : w5.cell? ⟨Q, 3, none⟩ = some ov ∧ w5.frozen? ⟨Q, 3, none⟩ = false := by
    obtain ⟨_, _, _, _, _, hr⟩ := hq5
    exact ⟨by rw [hr.cell]; rfl, hr.frozen 3⟩
  have hQ6 := hQa.append hSa (fun e => by obtain ⟨a, ha, e⟩ := List.mem_map.1 e; have := (HLO.out a ha).1; simp only at e; omega) (fun a ha e => by have := (HLO.out a ha).2 GX e; omega) (by show w0.heap.size ≤ gs; omega) (by rw [← Hm.out]; exact hown5) hg5
  have hP6 := (hPa.step hg5 (RT.of_own hQa.ov) (by decide)).step (only_set (only_refl w5 Q) 3 (.slice A5 (m + 1) c5)) hq5.rt (by decide)
  have HQ6 := Lib.hid hQ6
  have HP6 := Lib.hid hP6
  have HG5 := Lib.hid hg5
  clear hQa hPa hSa hq5 hQ6 hP6 hown5 hg5 q0' q1' q3' q11' q12' qf' f3' hat5 HQ4 HP4 HS4 HRO
  go_upto_region 34 with fail
  generalize w5.setCell ⟨Q, 3, none⟩ (.slice A5 (m + 1) c5) = W6 at HQ6 HP6 ⊢
  obtain ⟨q0, q1, q3, q11, q12, qf⟩ := HQ6.out.cells
  obtain ⟨A7, n7, cap7, c4, c8, c9, c10, c13, c14, hn⟩ := HP6.out.cells
  clear y3 z3
  go_wp2_with fail
  have hLl : ((Gs ++ [(⟨gs, p.2.k, .slice (some ⟨GX, 0, none⟩) 0 0, []⟩ : MSet)]).map fun s => ((s.sb, s.k) : Ref)).length = m + 1 := by rw [List.length_map, List.length_append, Hm.out]; rfl
  have hLm : ((Gs ++ [(⟨gs, p.2.k, .slice (some ⟨GX, 0, none⟩) 0 0, []⟩ : MSet)]).map fun s => ((s.sb, s.k) : Ref)).map rp = (Gs ++ [(⟨gs, p.2.k, .slice (some ⟨GX, 0, none⟩) 0 0, []⟩ : MSet)]).map stp := by rw [List.map_map]; rfl
  refine (ssn_any first B (.slice A5 (m + 1) c5) ((Gs ++ [(⟨gs, p.2.k, .slice (some ⟨GX, 0, none⟩) 0 0, []⟩ : MSet)]).map fun s => ((s.sb, s.k) : Ref)) W6 hf (by rw [hLl, hLm]; have := HQ6.out.ov; rw [List.length_append, ← Hm.out] at this; exact this) (by intro e; rw [e] at hLl; cases hLl) (by omega) (fun r hr => ?_)).mono ?_
  · obtain ⟨a, ha, rfl⟩ := List.mem_map.1 hr
    have h1 := HQ6.out.sets a ha
    refine ⟨(Row.three h1.row).1, ?_, row_own h1.row HQ6.out.ov (by decide)⟩
    show a.k ≤ 30000
    rcases List.mem_append.1 ha with h2 | h2
    · have := hk a h2; omega
    · obtain rfl := List.mem_singleton.1 h2
      show p.2.k ≤ 30000
      omega
  rintro z w7 ⟨rfl, L', pL, sL, o7, g7⟩
  obtain ⟨Gs', pG, rfl⟩ := perm_lift pL.symm rfl
  rw [hLl] at o7
  have hGl : Gs'.length = m + 1 := by rw [pG.length_eq, ← hLl, List.length_map]
  have hQ7 := HQ6.out.order pG (by rw [hGl]; have e : (Gs'.map fun s => ((s.sb, s.k) : Ref)).map rp = Gs'.map stp := List.map_map.trans rfl; rw [← e]; exact o7) g7
  have hP7 := HP6.out.step g7 (RT.of_own HQ6.out.ov) (by decide)
  have hsort : Gs'.Pairwise (fun a b => a.k ≤ b.k) := by rw [List.pairwise_map] at sL; exact sL
  have HQ7 := Lib.hid hQ7
  have HP7 := Lib.hid hP7
  have HPG := Lib.hid pG
  have HSO := Lib.hid hsort
  clear q0 q1 q3 q11 q12 qf c4 c8 c9 c10 c13 c14 hn pL sL o7 g7 hLl hLm hQ7 hP7 pG hsort HQ6 HP6
  obtain ⟨q0, q1, q3, q11, q12, qf⟩ := HQ7.out.cells
  obtain ⟨A8, n8, cap8, c4, c8, c9, c10, c13, c14, hn⟩ := HP7.out.cells
  go_upto_region 36 with fail
  refine wp_region_tail 9 (by kernel_rfl) (by kernel_rfl) ?_
  simp only [List.take_succ_cons, List.take_zero, List.drop_succ_cons, List.drop_zero]
  repeat still_step
  refine wpStill_nil ?_
  have ha := fun y => run_add64 (y := y) (w := w7.drew) q11 (qf 11)
  go_wp2_with fail
  have hQ8 := (HQ7.out.nbytes (nb' := IntKind.u64.wrap (nb + IntKind.u64.wrap (n8 : Int)))).bstep ((Below.refl _ _).drew)
  have hP8 := (HP7.out.step (only_set (only_refl w7 Q) 11 (.int .u64 (IntKind.u64.wrap (nb + IntKind.u64.wrap (n8 : Int))))) HQ7.out.q.rt (by decide)).below ((Below.refl _ _).drew)
  obtain ⟨L1, L2, hsp⟩ := List.append_of_mem (HPG.out.mem_iff.2 (by simp : (⟨gs, p.2.k, .slice (some ⟨GX, 0, none⟩) 0 0, []⟩ : MSet) ∈ Gs ++ [⟨gs, p.2.k, .slice (some ⟨GX, 0, none⟩) 0 0, []⟩]))
  rw [hsp] at hQ8
  have HSP := Lib.hid hsp
  have HQ8 := Lib.hid hQ8
  have HP8 := Lib.hid hP8
  clear hsp hQ8 hP8 q0 q1 q3 q11 q12 qf c4 c8 c9 c10 c13 c14 hn ha
  refine (pushnd_any first st B w0 ⟨gs, p.2.k, .slice (some ⟨GX, 0, none⟩) 0 0, []⟩ p _ hf (HQ8.out.sets _ (by simp)) HP8.out (Nat.zero_le _) (fun c hc => by obtain rfl := List.mem_singleton.1 (by simpa using hc); exact hpt) HQ8.out.size).mono ?_
  intro z w9 hadd
  obtain ⟨⟨b, rfl⟩, rv', cs', pc, pw, hQ9⟩ := HQ8.out.added hadd
  have HQ9 := Lib.hid hQ9
  clear hadd hQ9
  go_wp2
  go_ret2
  exact ⟨⟨b, rfl⟩, _, _, Gs', L1, L2, gs, _, rv', cs', HPG.out, HSP.out, HSO.out, by simpa using pc, HQ9.out⟩
set_option maxRecDepth 20000 in
set_option maxHeartbeats 1600000 in
theorem push_first (first st B Q : Nat) (w0 w : World) (ov : Value) (nb : Int) (Gs : List MSet) (p : Ck) (hf : first < 4294967296) (h : QSt first st B Q w0 w ov nb Gs) (hp : ChunkAt first st w0 w p) (hl : Gs.length ≤ 1000) (hk : ∀ s ∈ Gs, s.k ≤ 1000) (hpk : p.2.k ≤ 1000) (hpt : p.2.t ≤ 5000)
    (hfr : (p.2.b && p.2.e) = false) (hB : B ≤ w.heap.size) (hno : ∀ s ∈ Gs, s.k ≠ p.2.k) :
    Calls Tryd.prog 16 #[.pointer (some ⟨Q, 0, none⟩), .pointer (some ⟨p.1, 0, none⟩)] w (Pushed1 first st B Q w0 Gs p) := by
  obtain ⟨q0, q1, q3, q11, q12, qf⟩ := h.cells
  obtain ⟨A, n, cap, c4, c8, c9, c10, c13, c14, hn⟩ := hp.cells
  have HQ := Lib.hid h
  have HP := Lib.hid hp
  obtain ⟨A1, n1, cap1, hrow, _⟩ := id hp
  have HR := Lib.hid hrow
  have hlt : ∀ w, Calls Tryd.prog 30 #[.int .u16 (p.2.k : Int), .int .u16 0] w fun e w' => e = .returned (.bool false) ∧ w' = w := fun w => by
    have h1 := sna16LT_near p.2.k 0 w (by omega) (by omega)
    rw [decide_eq_false (by omega)] at h1
    exact h1.mono fun e w' h => ⟨h.1, h.2.symm⟩
  have HL := Lib.hid hlt
  clear h hp hrow hlt
  go_enter Tryd.func16, Tryd.ntmps16
  go_wp2_with fail
  refine (isid_any p.1 _ _ _ _ _ _ _ _ w HR.out).mono ?_
  rintro z w1 ⟨rfl, rfl⟩
  go_wp2_with fail
  go_quiet (fail)
  have HQ2 := Lib.hid (HQ.out.drewN nq)
  have HP2 := Lib.hid (HP.out.drewN nq)
  clear q0 q1 q3 q11 q12 qf c4 c8 c9 c10 c13 c14 hn HQ HP HR
  generalize w.drewN nq = W at HQ2 HP2 ⊢
  obtain ⟨q0, q1, q3, q11, q12, qf⟩ := HQ2.out.cells
  obtain ⟨A, n, cap, c4, c8, c9, c10, c13, c14, hn⟩ := HP2.out.cells
  go_wp2_with fail
  go_quiet ((go_at_call 30; exact Calls.quiet_of_same (HL.out _)))
  have HQ3 := Lib.hid (HQ2.out.drewN nq)
  have HP3 := Lib.hid (HP2.out.drewN nq)
  clear q0 q1 q3 q11 q12 qf c4 c8 c9 c10 c13 c14 hn HQ2 HP2 HL
  generalize W.drewN nq = X at HQ3 HP3 ⊢
  obtain ⟨q0, q1, q3, q11, q12, qf⟩ := HQ3.out.cells
  obtain ⟨A, n, cap, c4, c8, c9, c10, c13, c14, hn⟩ := HP3.out.cells
  have f3 := qf 3
  have f11 := qf 11
  obtain ⟨A2, n2, cap2, hrow, _⟩ := id HP3.out
  have HR := Lib.hid hrow
  obtain ⟨G2, G3, G4, mp, mq, hqrow⟩ := HQ3.out.q
  have HQR := Lib.hid hqrow
  clear hrow hqrow
  go_wp2_with fail
  refine (isfr_any p.1 _ _ _ _ _ _ _ _ X HR.out).mono ?_
  rintro z w2 ⟨rfl, rfl⟩
  rw [hfr]
  obtain ⟨m0, hm0⟩ : ∃ m0, m0 = Gs.length := ⟨_, rfl⟩
  have hro := Rd.of_own HQ3.out.ov
  rw [← hm0] at hro
  obtain ⟨A0, cp0, hv0, hnc0, hcm0, hl00, h00, hc0⟩ := hro
  rw [hv0] at q3
  have HV0 := Lib.hid hv0
  clear hv0
  have HC0 := Lib.hid hc0
  have Hm0 := Lib.hid hm0
  clear hl00 h00 hc0 hm0
  unfold maxLen at hcm0
  go_wp2_with fail
  clear c4 c8 c9 c13 c14 q0 q1 q11 q12 qf f3 f11 HR HQR hn
  go_loopw [6, 96] (fun c i wr => ∃ j : Nat, j ≤ m0 ∧ i = .int .i64 (j : Int) ∧ c = .pointer none ∧ ∃ q, wr = X.drewN q) (fun _ i _ => m0 - (intOf i).toNat)
  case atStart => exact ⟨0, Nat.zero_le _, rfl, rfl, 0, rfl⟩
  case round =>
    obtain ⟨j, hj, rfl, rfl, nq0, rfl⟩ := hrel
    by_cases hlt : j < m0
    · obtain ⟨g, o, rfl, hg⟩ := HC0.out (by omega)
      have hlk : j < Gs.length := by have := Hm0.out; omega
      have hx : Gs[j]? = some Gs[j] := List.getElem?_eq_getElem hlk
      have hmem := List.getElem_mem hlk
      generalize Gs[j] = x at hx hmem
      have hcx := hg j (stp x) (by simp [hx])
      have hkx := (Row.three (HQ3.out.sets x hmem).row).1
      have hne := hno x hmem
      unfold stp rp at hcx
      simp only at hcx
      have hnk : ((x.k : Int) == (p.2.k : Int)) = false := by rw [beq_eq_false_iff_ne]; omega
      generalize x.sb = gx at hcx hkx
      generalize x.k = kx at hkx hnk
      clear hx hmem hg hne
      go_wp2_with fail
      go_quiet (fail)
      go_wp2
      exact ⟨⟨j + 1, by omega, by go_num, rfl, _, rfl⟩, by simp [intOf]; omega⟩
    · obtain rfl : j = m0 := by omega
      have HQ4 := Lib.hid (HQ3.out.drewN nq0)
      have HP4 := Lib.hid (HP3.out.drewN nq0)
      clear q3 c10 HQ3 HP3
      generalize X.drewN nq0 = Y at HQ4 HP4 ⊢
      have HQ3 := HQ4
      have HP3 := HP4
      clear HQ4 HP4
      obtain ⟨q0, q1, q3, q11, q12, qf⟩ := HQ3.out.cells
      obtain ⟨A, n, cap, c4, c8, c9, c10, c13, c14, hn⟩ := HP3.out.cells
      have f3 := qf 3
      have f11 := qf 11
      obtain ⟨A2, n2, cap2, hrow, _⟩ := id HP3.out
      have HR := Lib.hid hrow
      obtain ⟨G2, G3, G4, mp, mq, hqrow⟩ := HQ3.out.q
      have HQR := Lib.hid hqrow
      clear hrow hqrow
      go_wp2_with fail
      refine (hdl_any Q _ _ _ _ _ _ _ _ _ _ _ Y HQR.out).mono ?_
      rintro z w2 ⟨rfl, rfl⟩
      go_wp2_with fail
      refine wp_region_tail 8 (by kernel_rfl) (by kernel_rfl) ?_
      simp only [List.take_succ_cons, List.take_zero, List.drop_succ_cons, List.drop_zero]
      repeat still_step
      refine wpStill_nil ?_
      go_wp2_with fail
      refine (newset_any p.2.k (50 + p.2.k) _).mono ?_
      rintro z w3 ⟨gs, rfl, rs, ro, b3, hgs⟩
      have hQ3 := (HQ3.out.bstep ((Below.refl _ Y).drew)).bstep b3
      have hP3 := (HP3.out.below ((Below.refl _ Y).drew)).below b3
      have hzX : w0.heap.size ≤ Y.heap.size := HQ3.out.below.size
      have hBX := HQ3.out.size
      have hown0 : w3.ownsRow B 48 1 (.slice (some ⟨Y.drew.heap.size, 0, none⟩) 0 0) 0 [] := ro.own (by show B ≤ Y.heap.size; exact hBX) rfl (Nat.zero_le _)
      generalize hG : Y.drew.heap.size = GX at rs ro hgs hown0
      have hGX : Y.heap.size = GX := hG
      have hS3 : SetAt first st B w0 w3 ⟨gs, p.2.k, .slice (some ⟨GX, 0, none⟩) 0 0, []⟩ := ⟨rs, hown0, fun c hc => by cases hc⟩
      have hlo : ∀ a ∈ Gs, a.sb < GX ∧ ∀ j, a.rv.ownBlock = some j → j < GX := fun a ha => by
        have hsa := HQ3.out.sets a ha
        have h1 := hsa.row.lt
        exact ⟨by omega, fun j hj => by have := (hsa.own.lt j hj).2; omega⟩
      obtain ⟨m, hm⟩ : ∃ m, m = Gs.length := ⟨_, rfl⟩
      have Hm := Lib.hid hm
      have HQ4 := Lib.hid hQ3
      have HP4 := Lib.hid hP3
      have HS4 := Lib.hid hS3
      have HLO := Lib.hid hlo
      have HRO := Lib.hid ro
      obtain ⟨q0', q1', q3', q11', q12', qf'⟩ := hQ3.cells
      have hB3 := hQ3.size
      have f3' := qf' 3
      have hm1 : m ≤ 1000 := by omega
      clear q0 q1 q3 q11 q12 qf c4 c8 c9 c10 c13 c14 hn HR HQR f3 f11 hQ3 hP3 hS3 hlo rs ro hm hown0 HQ3 HP3
      go_wp2_with (at_builtin; refine wpList_append_rd _ rfl _ _ rfl stT B ov m (Gs.map stp) rfl ((by rw [Hm.out]; exact HQ4.out.ov : w3.ownsRow B 69 1 ov m (Gs.map stp)).alloc _) _ 1 [_] rfl (Rd.lit w3 69 [.pointer (some ⟨gs, 0, none⟩)] 1 rfl (by omega)) ?c1 ?c2 ?c3 ?c4 ?_)
      case c1 => simp [Value.oneCell']
      case c2 => unfold maxLen; omega
      case c3 => omega
      case c4 => rw [World.size_alloc]; omega
      intro v5 w5 hown5 hg5 hat5
      obtain ⟨A5, c5, e5⟩ := own_slice hown5
      subst e5
      have hQa := HQ4.out.bstep ((Below.refl w3.heap.size w3).alloc (Nat.le_refl _) (.cells #[.pointer (some ⟨gs, 0, none⟩)] 69))
      have hPa := HP4.out.alloc (.cells #[.pointer (some ⟨gs, 0, none⟩)] 69)
      have hSa := HS4.out.below ((Below.refl w3.heap.size w3).alloc (Nat.le_refl _) (.cells #[.pointer (some ⟨gs, 0, none⟩)] 69))
      have hq5 := hQa.q.step hg5 (RT.of_own hQa.ov) (by decide)
      obtain ⟨y3, z3⟩ : w5.cell? ⟨Q, 3, none⟩ = some ov ∧ w5.frozen? ⟨Q, 3, none⟩ = false := by
        obtain ⟨_, _, _, _, _, hr⟩ := hq5
        exact ⟨by rw [hr.cell]; rfl, hr.frozen 3⟩
      have hQ6 := hQa.append hSa (fun e => by obtain ⟨a, ha, e⟩ := List.mem_map.1 e; have := (HLO.out a ha).1; simp only at e; omega) (fun a ha e => by have := (HLO.out a ha).2 GX e; omega) (by show w0.heap.size ≤ gs; omega) (by rw [← Hm.out]; exact hown5) hg5
      have hP6 := (hPa.step hg5 (RT.of_own hQa.ov) (by decide)).step (only_set (only_refl w5 Q) 3 (.slice A5 (m + 1) c5)) hq5.rt (by decide)
      have HQ6 := Lib.hid hQ6
      have HP6 := Lib.hid hP6
      have HG5 := Lib.hid hg5
      clear hQa hPa hSa hq5 hQ6 hP6 hown5 hg5 q0' q1' q3' q11' q12' qf' f3' hat5 HQ4 HP4 HS4 HRO
      go_upto_region 34 with fail
      generalize w5.setCell ⟨Q, 3, none⟩ (.slice A5 (m + 1) c5) = W6 at HQ6 HP6 ⊢
      obtain ⟨q0, q1, q3, q11, q12, qf⟩ := HQ6.out.cells
      obtain ⟨A7, n7, cap7, c4, c8, c9, c10, c13, c14, hn⟩ := HP6.out.cells
      clear y3 z3
      go_wp2_with fail
      have hLl : ((Gs ++ [(⟨gs, p.2.k, .slice (some ⟨GX, 0, none⟩) 0 0, []⟩ : MSet)]).map fun s => ((s.sb, s.k) : Ref)).length = m + 1 := by rw [List.length_map, List.length_append, Hm.out]; rfl
      have hLm : ((Gs ++ [(⟨gs, p.2.k, .slice (some ⟨GX, 0, none⟩) 0 0, []⟩ : MSet)]).map fun s => ((s.sb, s.k) : Ref)).map rp = (Gs ++ [(⟨gs, p.2.k, .slice (some ⟨GX, 0, none⟩) 0 0, []⟩ : MSet)]).map stp := by rw [List.map_map]; rfl
      refine (ssn_any first B (.slice A5 (m + 1) c5) ((Gs ++ [(⟨gs, p.2.k, .slice (some ⟨GX, 0, none⟩) 0 0, []⟩ : MSet)]).map fun s => ((s.sb, s.k) : Ref)) W6 hf (by rw [hLl, hLm]; have := HQ6.out.ov; rw [List.length_append, ← Hm.out] at this; exact this) (by intro e; rw [e] at hLl; cases hLl) (by omega) (fun r hr => ?_)).mono ?_
      · obtain ⟨a, ha, rfl⟩ := List.mem_map.1 hr
        have h1 := HQ6.out.sets a ha
        refine ⟨(Row.three h1.row).1, ?_, row_own h1.row HQ6.out.ov (by decide)⟩
        show a.k ≤ 30000
        rcases List.mem_append.1 ha with h2 | h2
        · have := hk a h2; omega
        · obtain rfl := List.mem_singleton.1 h2
          show p.2.k ≤ 30000
          omega
      rintro z w7 ⟨rfl, L', pL, sL, o7, g7⟩
      obtain ⟨Gs', pG, rfl⟩ := perm_lift pL.symm rfl
      rw [hLl] at o7
      have hGl : Gs'.length = m + 1 := by rw [pG.length_eq, ← hLl, List.length_map]
      have hQ7 := HQ6.out.order pG (by rw [hGl]; have e : (Gs'.map fun s => ((s.sb, s.k) : Ref)).map rp = Gs'.map stp := List.map_map.trans rfl; rw [← e]; exact o7) g7
      have hP7 := HP6.out.step g7 (RT.of_own HQ6.out.ov) (by decide)
      have hsort : Gs'.Pairwise (fun a b => a.k ≤ b.k) := by rw [List.pairwise_map] at sL; exact sL
      have HQ7 := Lib.hid hQ7
      have HP7 := Lib.hid hP7
      have HPG := Lib.hid pG
      have HSO := Lib.hid hsort
      clear q0 q1 q3 q11 q12 qf c4 c8 c9 c10 c13 c14 hn pL sL o7 g7 hLl hLm hQ7 hP7 pG hsort HQ6 HP6
      obtain ⟨q0, q1, q3, q11, q12, qf⟩ := HQ7.out.cells
      obtain ⟨A8, n8, cap8, c4, c8, c9, c10, c13, c14, hn⟩ := HP7.out.cells
      go_upto_region 36 with fail
      refine wp_region_tail 9 (by kernel_rfl) (by kernel_rfl) ?_
      simp only [List.take_succ_cons, List.take_zero, List.drop_succ_cons, List.drop_zero]
      repeat still_step
      refine wpStill_nil ?_
      have ha := fun y => run_add64 (y := y) (w := w7.drew) q11 (qf 11)
      go_wp2_with fail
      have hQ8 := (HQ7.out.nbytes (nb' := IntKind.u64.wrap (nb + IntKind.u64.wrap (n8 : Int)))).bstep ((Below.refl _ _).drew)
      have hP8 := (HP7.out.step (only_set (only_refl w7 Q) 11 (.int .u64 (IntKind.u64.wrap (nb + IntKind.u64.wrap (n8 : Int))))) HQ7.out.q.rt (by decide)).below ((Below.refl _ _).drew)
      obtain ⟨L1, L2, hsp⟩ := List.append_of_mem (HPG.out.mem_iff.2 (by simp : (⟨gs, p.2.k, .slice (some ⟨GX, 0, none⟩) 0 0, []⟩ : MSet) ∈ Gs ++ [⟨gs, p.2.k, .slice (some ⟨GX, 0, none⟩) 0 0, []⟩]))
      rw [hsp] at hQ8
      have HSP := Lib.hid hsp
      have HQ8 := Lib.hid hQ8
      have HP8 := Lib.hid hP8
      clear hsp hQ8 hP8 q0 q1 q3 q11 q12 qf c4 c8 c9 c10 c13 c14 hn ha
      refine (pushnd_any first st B w0 ⟨gs, p.2.k, .slice (some ⟨GX, 0, none⟩) 0 0, []⟩ p _ hf (HQ8.out.sets _ (by simp)) HP8.out (Nat.zero_le _) (fun c hc => by obtain rfl := List.mem_singleton.1 (by simpa using hc); exact hpt) HQ8.out.size).mono ?_
      intro z w9 hadd
      obtain ⟨⟨b, rfl⟩, rv', cs', pc, pw, hQ9⟩ := HQ8.out.added hadd
      have HQ9 := Lib.hid hQ9
      clear hadd hQ9
      go_wp2
      go_ret2
      exact ⟨⟨b, rfl⟩, _, _, Gs', L1, L2, gs, _, rv', cs', HPG.out, HSP.out, HSO.out, by simpa using pc, HQ9.out⟩
end Go.Proofs.YtnlkmcbhhljajaaDoor
