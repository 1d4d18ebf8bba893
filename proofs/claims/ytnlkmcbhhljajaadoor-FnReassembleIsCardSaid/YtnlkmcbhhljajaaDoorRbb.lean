/- ZZReassemble: its loop over the chunks, and its loop over the sizes. Conditions: the chunks are the messages' pieces in some order. -/
import Derived.Test.YtnlkmcbhhljajaaDoorRba
namespace Go.Proofs.YtnlkmcbhhljajaaDoor
open Go.RowKit Go.Lib

/-- What ZZReassemble returns. -/
def Rea (ms : List (List UInt8)) (w : World) (z : Ending) (w' : World) : Prop :=
  ∃ (A1 : Option Addr) (c1 : Nat) (A2 : Option Addr) (c2 : Nat) (vs : List Value), z = .returned (.tuple #[.slice A1 (ms.length + 1) c1, .slice A2 (ms.length + 1) c2]) ∧ Rd w' 1 (ms.length + 1) (.slice A1 (ms.length + 1) c1) vs ∧ vs.length = ms.length + 1 ∧ (∀ (i : Nat) (v : Value) (m : List UInt8), vs[i]? = some v → (ms ++ [[]])[i]? = some m → Sl w' v m) ∧
    Rd w' 1 (ms.length + 1) (.slice A2 (ms.length + 1) c2) ((List.range (ms.length + 1)).map fun i => .int .u32 ((if i < ms.length then 50 + i else 0 : Nat) : Int)) ∧ Below w.heap.size w w'

set_option maxRecDepth 20000 in
set_option maxHeartbeats 1600000 in
theorem zzrea_any (first st size : Nat) (ms : List (List UInt8)) (ds : List (Value × Pc)) (A : Option Addr) (n c : Nat) (A2 : Option Addr) (c2 : Nat) (w : World) (hS : Small size ms) (hf : first < 4294967296)
    (hr : Rd w 9 n (.slice A n c) (flat (zcs first st) ds)) (hn : n = ds.length) (hs : ∀ d ∈ ds, Sl w d.1 d.2.u) (hp : (ds.map (·.2)).Perm (allp size 0 0 ms)) (hne : ms ≠ []) (he : ErrAt w) (M : Nat) (hM : M = ms.length)
    (hz : Rd w 1 (M + 1) (.slice A2 (M + 1) c2) (List.replicate (M + 1) (.int .i64 4096))) :
    Calls Tryd.prog 10 #[.slice A n c, .slice A2 (M + 1) c2] w (Rea ms w) := by
  have hlen : ds.length = (allp size 0 0 ms).length := by rw [← hp.length_eq, List.length_map]
  have h4 := hS.len
  have hnl : n ≤ 4000 := by omega
  have hpos : 0 < n := by
    obtain ⟨m, hm⟩ := List.exists_mem_of_ne_nil _ hne
    obtain ⟨i, hi⟩ := List.mem_iff_getElem?.1 hm
    have hf := allp_filter size ms 0 0 i m hi
    have h1 := List.length_filter_le (fun p : Pc => decide (p.k = 0 + i)) (allp size 0 0 ms)
    rw [hf, cutm_length] at h1
    have := (npc_lt (m := m) hS.size 0).2 (by have := List.length_pos_iff.2 (hS.ne m hm); omega)
    omega
  have hx0 : ds[0]? = some (ds[0]'(by omega)) := List.getElem?_eq_getElem (by omega)
  obtain ⟨g, o, rfl, hel⟩ := hr.el (zcs_length first st) (by omega) hx0
  have hst := hel 5 (.int .u16 (st : Int)) rfl
  rw [Nat.zero_mul, Nat.add_zero] at hst
  obtain ⟨_, c', hv, hnc, hcm, _, _, _⟩ := id hr
  injection hv with e1 e2 e3
  subst e1 e3
  clear e2
  obtain ⟨Az, cz, e, _, _, _, _, hcz⟩ := id hz
  injection e with e1 e2 e3
  subst e1
  obtain ⟨gz, oz, e4, hgz⟩ := hcz (by omega)
  subst e4
  clear e2 e3 hcz
  have HZZ := Lib.hid hgz
  have HR := Lib.hid hr
  have Hn := Lib.hid hn
  have HS := Lib.hid hs
  have HP := Lib.hid hp
  have HE := Lib.hid he
  have HM := Lib.hid hM
  have HZ := Lib.hid hz
  clear hr hn hs hp he hM hz hel hx0 hlen hgz
  unfold maxLen at hcm
  go_enter Tryd.func10, Tryd.ntmps10
  go_wp2_with fail
  refine (newq_any st w).mono ?_
  rintro z w1 ⟨Q, G1, G2, G3, G4, mp, mq, rfl, r1, r2, l1, l2, b1⟩
  have HQ := Lib.hid (QSeen.new r1 r2 l1 l2 b1 (first := first))
  clear r1 r2 l1 b1 hst
  go_wp2_with fail
  go_loopw [29] (fun i wr => ∃ j : Nat, j ≤ n ∧ i = .int .i64 (j : Int) ∧ Hid (QSeen first st w.heap.size Q w ((ds.take j).map (·.2)) wr)) (fun i _ => n - (intOf i).toNat)
  case atStart => exact ⟨0, Nat.zero_le _, rfl, HQ⟩
  case round =>
    obtain ⟨j, hj, rfl, HQ⟩ := hrel
    by_cases hlt : j < n
    · have hlk : j < ds.length := by have := Hn.out; omega
      have hx : ds[j]? = some ds[j] := List.getElem?_eq_getElem hlk
      generalize ds[j] = x at hx
      obtain ⟨xv, xp⟩ := x
      have hsx := HS.out (xv, xp) (List.mem_of_getElem? hx)
      obtain ⟨Ax, cx, hxv, _⟩ := id hsx
      simp only at hxv
      subst hxv
      obtain ⟨g', o', e, hel⟩ := HR.out.el (zcs_length first st) (by omega) hx
      injection e with e
      injection e with e1 e2 e3
      subst e1 e2
      have hL : ∀ b u, (zcs first st (.slice Ax xp.u.length cx, xp))[b]? = some u → wr.cell? ⟨g, o + j * 9 + b, none⟩ = some u :=
        fun b u hb => (HQ.out.below.cell (World.block_lt_of_cell? w _ (hel b u hb))).trans (hel b u hb)
      have HL := Lib.hid hL
      have Hx := Lib.hid hx
      have HSX := Lib.hid hsx
      have h1 : (zcs first st (.slice Ax xp.u.length cx, xp)).toArray.all (·.oneCell') = true := by simp [zcs, Value.oneCell']
      clear hel hL e3 hx hsx
      go_wp2_with (first | (refine wpList_load_mid rfl 39 _ rfl g (o + j * 9) rfl (zcs first st (.slice Ax xp.u.length cx, xp)) _ HL.out Tryd.underlying39 rfl zz_info ?_) | (refine wpList_store_new rfl _ _ (zcs first st (.slice Ax xp.u.length cx, xp)).toArray rfl rfl rfl zz_info rfl h1 ?_) | (refine wpList_load_new rfl _ rfl rfl _ Tryd.underlying39 rfl zz_info ?_))
      refine (zzpay_any xp.b xp.e (tsnOf first xp.t) st xp.k (50 + xp.k) Ax xp.u.length cx _).mono ?_
      rintro z w2 ⟨rfl, r3, b3, _⟩
      have hQ2 := (HQ.out.bstep ((Below.refl wr.heap.size wr).alloc (Nat.le_refl _) (.cells (zcs first st (.slice Ax xp.u.length cx, xp)).toArray 39))).bstep b3
      generalize (wr.alloc (.cells (zcs first st (.slice Ax xp.u.length cx, xp)).toArray 39)).heap.size + 1 = gc at r3
      have hC : ChunkAt first st w w2 (gc, xp) := ⟨Ax, _, cx, r3, HSX.out⟩
      obtain ⟨n1, n2, n3⟩ := new_piece HP.out (allp_sorted size ms 0 0) Hx.out
      simp only at n1 n2 n3
      have HQ2 := Lib.hid hQ2
      have HC := Lib.hid hC
      have N1 := Lib.hid n1
      have N2 := Lib.hid n2
      have N3 := Lib.hid n3
      clear r3 b3 hQ2 hC n1 n2 n3 h1 HL HQ HSX Hx
      go_wp2_with fail
      refine (push_seen first st w.heap.size Q size ms w w2 _ (gc, xp) hS hf HQ2.out (fun q hq => (N1.out q hq).1) (by rw [List.length_map, List.length_take]; omega) HC.out N2.out (fun q hq => (N1.out q hq).2)).mono ?_
      rintro z w3 ⟨⟨b, rfl⟩, hQ3⟩
      rw [← N3.out] at hQ3
      have HQ3 := Lib.hid hQ3
      clear hQ3 N1 N2 N3 HC HQ2
      go_wp2
      exact ⟨⟨j + 1, by omega, by go_num, HQ3⟩, by simp [intOf]; omega⟩
    · obtain rfl : j = n := by omega
      obtain ⟨ov, nb, Gs, hq, hs⟩ := HQ.out
      rw [List.take_of_length_le (by have := Hn.out; omega)] at hs
      obtain ⟨d1, d2⟩ := hs.done hS.size hS.ne HP.out
      obtain ⟨g0, c0, hR⟩ := RSt.of_q hq (by intro e; rw [e] at d1; exact hne (List.eq_nil_of_length_eq_zero d1.symm))
      have HR0 := Lib.hid hR
      have D1 := Lib.hid d1
      have D2 := Lib.hid d2
      have few := hS.few
      have hM := HM.out
      have hM20 : M ≤ 20 := by omega
      obtain ⟨nb0, HR0⟩ : ∃ nb0 : Int, Hid (RSt first st w.heap.size Q w wr g0 c0 0 0 nb0 Gs) := ⟨nb, HR0⟩
      have HG := Lib.hid (⟨⟨nb0, HR0.out⟩, World.ownsRow_nil _ _ _ _, fun i v m h => by simp at h, World.ownsRow_nil _ _ _ _⟩ : Rdg first st Q w wr g0 c0 Gs ms 0 0 0 (.slice none 0 0) (.slice none 0 0) [])
      clear hq hs hR d1 d2 HQ HR HS HP Hn hM HR0 few
      go_wp2_with fail
      go_loopw [10, 11, 40] (fun o p i wr => ∃ j : Nat, j ≤ M + 1 ∧ i = .int .i64 (j : Int) ∧ ∃ vs, Hid (vs.length = j) ∧ Hid (Rdg first st Q w wr g0 c0 Gs ms (Nat.min j M) j j o p vs)) (fun _ _ i _ => M + 1 - (intOf i).toNat)
      case atStart => exact ⟨0, Nat.zero_le _, rfl, [], Lib.hid rfl, by have e : Nat.min 0 M = 0 := Nat.zero_min M; rw [e]; exact HG⟩
      case round =>
        obtain ⟨j, hj, rfl, vs, HV, HG⟩ := hrel
        by_cases hlt : j < M + 1
        · have hz0 := HZZ.out j (.int .i64 4096) (by rw [List.getElem?_replicate, if_pos hlt])
          have hz : wr.cell? ⟨gz, oz + j, none⟩ = some (.int .i64 4096) := (HG.out.below.cell (World.block_lt_of_cell? w _ hz0)).trans hz0
          clear hz0
          obtain ⟨Ao, co, eo⟩ := own_slice HG.out.out
          subst eo
          obtain ⟨Ap, cp, ep⟩ := own_slice HG.out.pro
          subst ep
          go_wp2_with (at_make; refine wpList_make_buf rfl _ _ rfl rfl rfl ?_)
          intro w1 hb1 bel1
          have HB1 := Lib.hid hb1
          have BEL1 := Lib.hid bel1
          generalize hgb : wr.heap.size = gb at hb1
          clear hb1 bel1 hz
          by_cases hjM : j < M
          · have hjm : j < ms.length := by have := HM.out; omega
            have hjg : j < Gs.length := by have := D1.out; omega
            have hmj : ms[j]? = some ms[j] := List.getElem?_eq_getElem hjm
            have hsj : Gs[j]? = some Gs[j] := List.getElem?_eq_getElem hjg
            generalize ms[j] = m at hmj
            generalize Gs[j] = s at hsj
            obtain ⟨k1, k2, k3, k4, k5⟩ := D2.out j s m hsj hmj
            have hsh := hS.short m (List.mem_of_getElem? hmj)
            have emin : Nat.min j M = j := Nat.min_eq_left (Nat.le_of_lt hjM)
            rw [emin] at HG
            have hq1 := (HG.out.bstep BEL1.out).q
            obtain ⟨nb1, hq1⟩ := hq1
            rw [hgb] at HB1
            have hgw : w.heap.size ≤ gb := by rw [← hgb]; exact HG.out.below.size
            have hrd := read_any first st w.heap.size Q w w1 g0 c0 j nb1 Gs s gb hq1 hsj k1 (by omega) k2 (by omega) (fun c hc => by have := hS.mem (k4 c hc); omega) (by rw [k3]; omega) HB1.out hgw (by have := D1.out; have := HM.out; omega)
            rw [k3] at hrd
            have hmm : (ms ++ [[]])[j]? = some m := by rw [List.getElem?_append_left hjm]; exact hmj
            have HRD := Lib.hid hrd
            have HMM := Lib.hid hmm
            have hml : m.length ≤ 4096 := by omega
            clear hmj hsj k1 k2 k3 k4 k5 hq1 hrd hmm emin
            go_wp2_with fail
            refine HRD.out.mono ?_
            intro z w2 hro
            obtain ⟨hR2, hB2⟩ := HG.out.read BEL1.out HB1.out hgb.symm hml hro
            obtain ⟨rfl, _⟩ := hro
            have HG2 := Lib.hid hR2
            have HB2 := Lib.hid hB2
            have hcut := fun w => cut_to gb m.length w hml
            have hwz := hR2.below.size
            clear hR2 hB2 HRD HB1 BEL1 HG hgb
            go_wp2_with (at_builtin; refine wpList_append_rd _ rfl _ _ rfl bsT w.heap.size (.slice Ao j co) j vs rfl (HG2.out.bstep ((Below.refl w2.heap.size w2).alloc (Nat.le_refl _) _)).out _ 1 [_] rfl (Rd.lit w2 26 [.slice (some ⟨gb, 0, none⟩) m.length 4096] 1 rfl (by omega)) ?c1 ?c2 ?c3 ?c4 ?_)
            case c1 => simp [Value.oneCell']
            case c2 => unfold maxLen; omega
            case c3 => omega
            case c4 => rw [World.size_alloc]; omega
            intro v5 w5 hown5 hg5 hx5
            clear hx5
            obtain ⟨A5, c5, e5⟩ := own_slice hown5
            subst e5
            have hG5 := (HG2.out.bstep ((Below.refl w2.heap.size w2).alloc (Nat.le_refl _) (.cells #[.slice (some ⟨gb, 0, none⟩) m.length 4096] 26))).addo hown5 hg5 HV.out (HB2.out.below ((Below.refl w2.heap.size w2).alloc (Nat.le_refl _) _)) HMM.out
            have hwz5 := hG5.below.size
            have HG5 := Lib.hid hG5
            clear hown5 hg5 hG5 HG2 HB2 hwz hcut
            go_wp2_with (at_builtin; refine wpList_append_rd _ rfl _ _ rfl u4T w.heap.size (.slice Ap j cp) j _ rfl (HG5.out.bstep ((Below.refl w5.heap.size w5).alloc (Nat.le_refl _) _)).pro _ 1 [_] rfl (Rd.lit w5 22 [.int .u32 (50 + (j : Int))] 1 rfl (by omega)) ?c1 ?c2 ?c3 ?c4 ?_)
            case c1 => simp [Value.oneCell']
            case c2 => unfold maxLen; omega
            case c3 => omega
            case c4 => rw [World.size_alloc]; omega
            intro v6 w6 hown6 hg6 hx6
            clear hx6
            obtain ⟨A6, c6, e6⟩ := own_slice hown6
            subst e6
            have epr : protoAt ms.length j = .int .u32 (50 + (j : Int)) := by unfold protoAt; rw [if_pos hjm, Int.natCast_add]; rfl
            rw [← epr] at hown6
            have hG6 := (HG5.out.bstep ((Below.refl w5.heap.size w5).alloc (Nat.le_refl _) (.cells #[.int .u32 (50 + (j : Int))] 22))).addp hown6 hg6
            have HG6 := Lib.hid hG6
            have HV6 : Hid ((vs ++ [(.slice (some ⟨gb, 0, none⟩) m.length 4096 : Value)]).length = j + 1) := Lib.hid (by rw [List.length_append, HV.out]; rfl)
            clear hown6 hg6 epr hG6 HG5
            go_wp2
            exact ⟨⟨j + 1, by omega, by go_num, _, HV6, by have e : Nat.min (j + 1) M = j + 1 := Nat.min_eq_left hjM; rw [e]; exact HG6⟩, by simp [intOf]; omega⟩
          · obtain rfl : j = M := by omega
            have emin : Nat.min j j = j := Nat.min_self j
            rw [emin] at HG
            have hG1 := HG.out.bstep BEL1.out
            obtain ⟨nb1, hq1⟩ := hG1.q
            have hlg : j = Gs.length := by rw [D1.out]; exact HM.out
            have hq2 : RSt first st w.heap.size Q w w1 g0 c0 j Gs.length nb1 Gs := by rw [← hlg]; exact hq1
            have hrd := read_end first st w.heap.size Q w w1 g0 c0 j nb1 Gs gb hq2 (HE.out.below HE.out.lt hG1.below)
            have hmm : (ms ++ [[]])[j]? = some [] := by rw [List.getElem?_append_right (by rw [← HM.out]; exact Nat.le_refl _), ← HM.out, Nat.sub_self]; rfl
            have HRD := Lib.hid hrd
            have HMM := Lib.hid hmm
            have HG1 := Lib.hid hG1
            have hnj : ¬ (j < ms.length) := by have := HM.out; omega
            clear hq1 hq2 hrd hmm emin hG1 hlg HG HB1 BEL1 hgb
            go_wp2_with fail
            refine HRD.out.mono ?_
            rintro z w2 ⟨⟨T, v, rfl⟩, qd, rfl⟩
            have hR2 := HG1.out.bstep (below_drewN (Below.refl _ _) qd)
            have HG2 := Lib.hid hR2
            have hwz := hR2.below.size
            clear hR2 HRD HG1
            generalize w1.drewN qd = w2 at HG2 hwz ⊢
            go_wp2_with (at_builtin; refine wpList_append_rd _ rfl _ _ rfl bsT w.heap.size (.slice Ao j co) j vs rfl (HG2.out.bstep ((Below.refl w2.heap.size w2).alloc (Nat.le_refl _) _)).out _ 1 [_] rfl (Rd.lit w2 26 [.slice none 0 0] 1 rfl (by omega)) ?c1 ?c2 ?c3 ?c4 ?_)
            case c1 => simp [Value.oneCell']
            case c2 => unfold maxLen; omega
            case c3 => omega
            case c4 => rw [World.size_alloc]; omega
            intro v5 w5 hown5 hg5 hx5
            clear hx5
            obtain ⟨A5, c5, e5⟩ := own_slice hown5
            subst e5
            have hG5 := (HG2.out.bstep ((Below.refl w2.heap.size w2).alloc (Nat.le_refl _) (.cells #[.slice none 0 0] 26))).addo hown5 hg5 HV.out (.inl ⟨rfl, rfl⟩) HMM.out
            have hwz5 := hG5.below.size
            have HG5 := Lib.hid hG5
            clear hown5 hg5 hG5 HG2 hwz
            go_wp2_with (at_builtin; refine wpList_append_rd _ rfl _ _ rfl u4T w.heap.size (.slice Ap j cp) j _ rfl (HG5.out.bstep ((Below.refl w5.heap.size w5).alloc (Nat.le_refl _) _)).pro _ 1 [_] rfl (Rd.lit w5 22 [.int .u32 0] 1 rfl (by omega)) ?c1 ?c2 ?c3 ?c4 ?_)
            case c1 => simp [Value.oneCell']
            case c2 => unfold maxLen; omega
            case c3 => omega
            case c4 => rw [World.size_alloc]; omega
            intro v6 w6 hown6 hg6 hx6
            clear hx6
            obtain ⟨A6, c6, e6⟩ := own_slice hown6
            subst e6
            have epr : protoAt ms.length j = .int .u32 0 := by unfold protoAt; rw [if_neg hnj]; rfl
            rw [← epr] at hown6
            have hG6 := (HG5.out.bstep ((Below.refl w5.heap.size w5).alloc (Nat.le_refl _) (.cells #[.int .u32 0] 22))).addp hown6 hg6
            have HG6 := Lib.hid hG6
            have HV6 : Hid ((vs ++ [(.slice none 0 0 : Value)]).length = j + 1) := Lib.hid (by rw [List.length_append, HV.out]; rfl)
            clear hown6 hg6 epr hG6 HG5
            go_wp2
            exact ⟨⟨j + 1, by omega, by go_num, _, HV6, by have e : Nat.min (j + 1) j = j := Nat.min_eq_right (Nat.le_succ j); rw [e]; exact HG6⟩, by simp [intOf]⟩
        · obtain rfl : j = M + 1 := by omega
          obtain ⟨Ao, co, eo⟩ := own_slice HG.out.out
          subst eo
          obtain ⟨Ap, cp, ep⟩ := own_slice HG.out.pro
          subst ep
          go_wp2
          go_ret2
          have hM := HM.out
          subst hM
          exact ⟨Ao, co, Ap, cp, vs, rfl, Rd.of_own HG.out.out, HV.out, fun i v m h1 h2 => (HG.out.bufs i v m h1 h2).sl, Rd.of_own HG.out.pro, HG.out.below⟩
end Go.Proofs.YtnlkmcbhhljajaaDoor
