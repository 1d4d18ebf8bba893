/- The contract of impl.Reassemble. Conditions: the chunks are the messages' pieces in some order. -/
import Derived.Test.YtnlkmcbhhljajaaDoorRbc
namespace Go.Proofs.YtnlkmcbhhljajaaDoor
open Go.RowKit Go.Lib

set_option maxRecDepth 20000 in
set_option maxHeartbeats 1600000 in
theorem implrea_any (first st size : Nat) (ms : List (List UInt8)) (ds : List (Value × Pc)) (A : Option Addr) (n c : Nat) (A2 : Option Addr) (c2 : Nat) (w : World) (hS : Small size ms) (hf : first < 4294967296) (hst : st ≤ 65535)
    (hr : Rd w 9 n (.slice A n c) (flat (dcs first st) ds)) (hn : n = ds.length) (hs : ∀ d ∈ ds, Sl w d.1 d.2.u ∧ d.2.u.length ≤ 4096) (hp : (ds.map (·.2)).Perm (allp size 0 0 ms)) (hne : ms ≠ []) (he : ErrAt w) (M : Nat) (hM : M = ms.length)
    (hz : Rd w 1 (M + 1) (.slice A2 (M + 1) c2) (List.replicate (M + 1) (.int .i64 4096))) :
    Calls Tryd.prog 5 #[.slice A n c, .slice A2 (M + 1) c2] w (ImR ms w) := by
  have hlen : ds.length = (allp size 0 0 ms).length := by rw [← hp.length_eq, List.length_map]
  have h4 := hS.len
  have few := hS.few
  have hnl : n ≤ 4000 := by omega
  have hM20 : M ≤ 20 := by omega
  obtain ⟨Az, cz, e, _, _, _, _, hcz⟩ := id hz
  injection e with e1 e2 e3
  subst e1
  obtain ⟨gz, oz, e4, hgz⟩ := hcz (by omega)
  subst e4
  clear e2 e3 hcz
  have HZZ := Lib.hid hgz
  have HR := Lib.hid hr
  have Hn := Lib.hid hn
  have HS := Lib.hid hs
  have HP := Lib.hid hp
  have HE := Lib.hid he
  have HM := Lib.hid hM
  have HZ := Lib.hid hz
  clear hr hn hs hp he hM hz hlen few hgz
  go_enter Tryd.func5, Tryd.ntmps5
  go_wp2_with fail
  go_loopw [20] (fun i wr => ∃ k : Nat, k ≤ M + 1 ∧ i = .int .i64 (k : Int) ∧ w = wr) (fun i _ => M + 1 - (intOf i).toNat)
  case atStart => exact ⟨0, Nat.zero_le _, rfl, rfl⟩
  case round =>
    obtain ⟨k, hk, rfl, rfl⟩ := hrel
    by_cases hlt : k < M + 1
    · have hz0 := HZZ.out k (.int .i64 4096) (by rw [List.getElem?_replicate, if_pos hlt])
      go_wp2
      exact ⟨⟨k + 1, by omega, by go_num, by trivial⟩, by simp [intOf]; omega⟩
    · go_wp2_with fail
      clear hk hlt
      go_loopw [9, 33] (fun o i wr => ∃ j : Nat, j ≤ n ∧ i = .int .i64 (j : Int) ∧ ∃ ds', Hid (Lst first st w wr o ds ds' j)) (fun _ i _ => n - (intOf i).toNat)
      case atStart => exact ⟨0, Nat.zero_le _, rfl, [], Lib.hid (Lst.nil first st w ds)⟩
      case round =>
        obtain ⟨j, hj, rfl, ds', HL⟩ := hrel
        by_cases hlt : j < n
        · have hlk : j < ds.length := by have := Hn.out; omega
          have hx : ds[j]? = some ds[j] := List.getElem?_eq_getElem hlk
          generalize ds[j] = x at hx
          obtain ⟨xv, xp⟩ := x
          obtain ⟨hsx, hul⟩ := HS.out (xv, xp) (List.mem_of_getElem? hx)
          simp only at hsx hul
          obtain ⟨Ax, cx, hxv, _⟩ := id hsx
          subst hxv
          obtain ⟨g, o, eA, hel⟩ := HR.out.el (dcs_length first st) (by omega) hx
          subst eA
          have hL : ∀ b u, (dcs first st (.slice Ax xp.u.length cx, xp))[b]? = some u → wr.cell? ⟨g, o + j * 9 + b, none⟩ = some u :=
            fun b u hb => (HL.out.below.cell (World.block_lt_of_cell? w _ (hel b u hb))).trans (hel b u hb)
          have HLL := Lib.hid hL
          have Hx := Lib.hid hx
          have hbo := hS.mem (HP.out.mem_iff.1 (List.mem_map_of_mem (List.mem_of_getElem? hx)))
          simp only at hbo
          have HSX := Lib.hid (hsx.below_of HL.out.below)
          have h1 : (dcs first st (.slice Ax xp.u.length cx, xp)).toArray.all (·.oneCell') = true := by simp [dcs, Value.oneCell']
          obtain ⟨Ao, co, eo⟩ := own_slice HL.out.own
          subst eo
          clear hel hL hx hsx
          go_wp2_with (first | (refine wpList_load_mid rfl 36 _ rfl g (o + j * 9) rfl (dcs first st (.slice Ax xp.u.length cx, xp)) _ HLL.out Tryd.underlying36 rfl da_info ?_) | (refine wpList_store_new rfl _ _ (dcs first st (.slice Ax xp.u.length cx, xp)).toArray rfl rfl rfl da_info rfl h1 ?_) | (refine wpList_load_new rfl _ rfl rfl _ Tryd.underlying36 rfl da_info ?_))
          have hLa := HL.out.bstep ((Below.refl wr.heap.size wr).alloc (Nat.le_refl _) (.cells (dcs first st (.slice Ax xp.u.length cx, xp)).toArray 36))
          have hSa := HSX.out.alloc (.cells (dcs first st (.slice Ax xp.u.length cx, xp)).toArray 36)
          generalize wr.alloc (.cells (dcs first st (.slice Ax xp.u.length cx, xp)).toArray 36) = wa at hLa hSa ⊢
          refine (dataOf_any false xp.b xp.e false (tsnOf first xp.t : Nat) (st : Int) (xp.k : Int) ((50 + xp.k : Nat) : Int) Ax xp.u.length cx xp.u wa hSa hul (by omega) (by omega) (by omega) (by omega)).mono ?_
          rintro z w2 ⟨A2', n2, c2', rfl, hs2, hb2, hn2⟩
          have hL2 := hLa.bstep hb2
          have hK2 : Keep w2 (Value.slice Ao j co).ownBlock none (.slice A2' n2 c2') xp.u := Keep.new hs2 hn2 (fun g e => (hLa.own.lt g e).2) (fun g e => (by cases e))
          have hz2 := hL2.below.size
          have HL2 := Lib.hid hL2
          have HK2 := Lib.hid hK2
          clear hLa hSa hs2 hb2 hn2 hL2 hK2 HLL HL HSX h1
          go_wp2_with (at_builtin; refine wpList_append_rd _ rfl _ _ rfl zzT w.heap.size (.slice Ao j co) j _ rfl (HL2.out.bstep ((Below.refl w2.heap.size w2).alloc (Nat.le_refl _) _)).own _ 1 (zcs first st (.slice A2' n2 c2', xp)) rfl (Rd.lit9 w2 39 (zcs first st (.slice A2' n2 c2', xp)) 9 rfl) ?c1 ?c2 ?c3 ?c4 ?_)
          case c1 => simp [zcs, Value.oneCell']
          case c2 => unfold maxLen; omega
          case c3 => omega
          case c4 => rw [World.size_alloc]; omega
          intro v5 w5 hown5 hg5 hx5
          obtain ⟨A5, c5, e5⟩ := own_slice hown5
          subst e5
          have hL5 := (HL2.out.bstep ((Below.refl w2.heap.size w2).alloc (Nat.le_refl _) (.cells (zcs first st (.slice A2' n2 c2', xp)).toArray 39))).add (d := (.slice A2' n2 c2', xp)) Hx.out rfl (HK2.out.below ((Below.refl w2.heap.size w2).alloc (Nat.le_refl _) _)) hown5 hg5 (by rw [World.size_alloc]; exact hx5)
          have HL5 := Lib.hid hL5
          clear hown5 hg5 hx5 hL5 HL2 HK2 Hx
          go_wp2
          exact ⟨⟨j + 1, by omega, by go_num, _, HL5⟩, by simp [intOf]; omega⟩
        · obtain rfl : j = n := by omega
          obtain ⟨Ao, co, eo⟩ := own_slice HL.out.own
          subst eo
          have hsame := HL.out.same
          rw [List.take_of_length_le (by have := Hn.out; omega)] at hsame
          have HP2 : Hid ((ds'.map (·.2)).Perm (allp size 0 0 ms)) := Lib.hid (by rw [hsame]; exact HP.out)
          have hzr := HZ.out.below_of HL.out.below
          have HZR := Lib.hid hzr
          have hle := HL.out.len
          have HLE := Lib.hid hle
          clear hsame hzr hle
          go_wp2_with (at_builtin; refine wpList_append_rd _ rfl _ _ rfl i8T wr.heap.size (.slice none 0 0) 0 [] rfl (World.ownsRow_nil _ _ _ _) _ (M + 1) (List.replicate (M + 1) (.int .i64 4096)) rfl HZR.out ?c1 ?c2 ?c3 (Nat.le_refl _) ?_)
          case c1 => intro u hu; rw [List.eq_of_mem_replicate hu]; rfl
          case c2 => unfold maxLen; omega
          case c3 => omega
          intro v3 w3 hown3 hg3 hx3
          have hb3 : Below wr.heap.size wr w3 := (Below.refl _ _).grown hg3 (Nat.le_refl _) (by simp [Value.ownBlock])
          obtain ⟨A3, c3, e3⟩ := own_slice hown3
          subst e3
          have hL3 := HL.out.bstep hb3
          have HL3 := Lib.hid hL3
          have HZ3 := Lib.hid (Rd.of_own hown3)
          have HE3 := Lib.hid (HE.out.below HE.out.lt hL3.below)
          clear hown3 hg3 hx3 hb3 hL3 HL HZR
          go_wp2_with fail
          refine (zzrea_any first st size ms ds' Ao j co A3 c3 w3 hS hf (Rd.of_own HL3.out.own) HLE.out.symm (fun d hd => (HL3.out.sl d hd).1) HP2.out hne HE3.out M HM.out HZ3.out).mono ?_
          rintro z w4 ⟨A5, c5, A6, c6, vs, rfl, r1, r2, r3, r4, b4⟩
          have hm := HM.out
          rw [← hm] at r1 r2 r4
          rw [← hm]
          have hb40 := below_step HL3.out.below HL3.out.below.size b4
          obtain ⟨At, ct, et, _, _, _, _, htx0⟩ := id r1
          injection et with e1 e2 e3
          subst e1
          obtain ⟨gt, ot, e4, htx⟩ := htx0 (by omega)
          subst e4
          clear e2 e3
          obtain ⟨Au, cu, eu, _, _, _, _, hpx0⟩ := id r4
          injection eu with e1 e2 e3
          subst e1
          obtain ⟨gu, ou, e4, hpx⟩ := hpx0 (by omega)
          subst e4
          clear e2 e3
          have HTX := Lib.hid htx
          have HPX := Lib.hid hpx
          have HVL := Lib.hid r2
          have HSL := Lib.hid r3
          have HB40 := Lib.hid hb40
          have HA := Lib.hid (Ans.nil w4 ms)
          clear r1 r2 r3 r4 b4 hb40 htx hpx htx0 hpx0 hm HL3 HE3 HZ3 HLE HP2 HZZ HR Hn HS HP HE HZ hnl
          go_wp2_with fail
          go_loopw [14, 15, 52] (fun o p i wr => ∃ q : Nat, q ≤ M + 1 ∧ i = .int .i64 (q : Int) ∧ ∃ vs2, Hid (Ans w4 wr ms q q o p vs2)) (fun _ _ i _ => M + 1 - (intOf i).toNat)
          case atStart => exact ⟨0, Nat.zero_le _, rfl, [], HA⟩
          case round =>
            obtain ⟨q, hq, rfl, vs2, HA⟩ := hrel
            obtain ⟨Ao2, co2, eo⟩ := own_slice HA.out.out
            subst eo
            obtain ⟨Ap2, cp2, ep⟩ := own_slice HA.out.num
            subst ep
            by_cases hlt : q < M + 1
            · have hvq : vs[q]? = some (vs[q]'(by have := HVL.out; omega)) := List.getElem?_eq_getElem _
              have hmq : (ms ++ [[]])[q]? = some ((ms ++ [[]])[q]'(by rw [List.length_append, ← HM.out]; exact hlt)) := List.getElem?_eq_getElem _
              generalize (vs[q]'(by have := HVL.out; omega)) = xv at hvq
              generalize ((ms ++ [[]])[q]'(by rw [List.length_append, ← HM.out]; exact hlt)) = m at hmq
              have hml : m.length ≤ 200 := by
                rcases List.mem_append.1 (List.mem_of_getElem? hmq) with h | h
                · exact hS.short m h
                · obtain rfl := List.mem_singleton.1 h
                  exact Nat.zero_le _
              have hs4 := HSL.out q xv m hvq hmq
              have hcx := HTX.out q xv hvq
              obtain ⟨y0, hy0⟩ : ∃ y0 : Nat, y0 = if q < M then 50 + q else 0 := ⟨_, rfl⟩
              have hcy := HPX.out q (.int .u32 (y0 : Int)) (by rw [List.getElem?_map, List.getElem?_range hlt, hy0]; rfl)
              have hy1 : y0 ≤ 100 := by rw [hy0]; split <;> omega
              have hw : IntKind.i64.wrap (y0 : Int) = (y0 : Int) := by simp [IntKind.wrap, IntKind.bits, IntKind.signed]; omega
              have hnum : numAt ms.length q = .int .i64 (y0 : Int) := by unfold numAt; rw [hy0, HM.out]
              have hcx' : wr.cell? ⟨gt, ot + q, none⟩ = some xv := (HA.out.below.cell (World.block_lt_of_cell? w4 _ hcx)).trans hcx
              obtain ⟨Ax, cx, exv, _⟩ := id hs4
              have HS4 := Lib.hid (hs4.below HA.out.below)
              have HCY := Lib.hid hcy
              have HMQ := Lib.hid hmq
              have HNUM := Lib.hid hnum
              subst exv
              clear hvq hmq hs4 hcx hcy hnum hy0
              go_wp2_with fail
              refine (copied_any _ m wr HS4.out (by omega)).mono ?_
              rintro z w5 ⟨A7, n7, c7, rfl, hs5, hb5, hn5⟩
              have hA5 := HA.out.bstep hb5
              have hK5 : Keep w5 (Value.slice Ao2 q co2).ownBlock (Value.slice Ap2 q cp2).ownBlock (.slice A7 n7 c7) m := Keep.new hs5 hn5 (fun g e => (HA.out.out.lt g e).2) (fun g e => (HA.out.num.lt g e).2)
              have hz5 := hA5.below.size
              have HA5 := Lib.hid hA5
              have HK5 := Lib.hid hK5
              clear hA5 hK5 hs5 hb5 hn5 hcx' HA HS4
              go_wp2_with (at_builtin; refine wpList_append_rd _ rfl _ _ rfl bsT w4.heap.size (.slice Ao2 q co2) q vs2 rfl (HA5.out.bstep ((Below.refl w5.heap.size w5).alloc (Nat.le_refl _) _)).out _ 1 [_] rfl (Rd.lit w5 26 [.slice A7 n7 c7] 1 rfl (by omega)) ?c1 ?c2 ?c3 ?c4 ?_)
              case c1 => simp [Value.oneCell']
              case c2 => unfold maxLen; omega
              case c3 => omega
              case c4 => rw [World.size_alloc]; omega
              intro v6 w6 hown6 hg6 hx6
              obtain ⟨A8, c8, e8⟩ := own_slice hown6
              subst e8
              have hA6 := (HA5.out.bstep ((Below.refl w5.heap.size w5).alloc (Nat.le_refl _) (.cells #[.slice A7 n7 c7] 26))).addo hown6 hg6 (by rw [World.size_alloc]; exact hx6) (HK5.out.below ((Below.refl w5.heap.size w5).alloc (Nat.le_refl _) _)) HMQ.out
              have hcy6 : w6.cell? ⟨gu, ou + q, none⟩ = some (.int .u32 (y0 : Int)) := (hA6.below.cell (World.block_lt_of_cell? w4 _ HCY.out)).trans HCY.out
              have hz6 := hA6.below.size
              have HA6 := Lib.hid hA6
              clear hown6 hg6 hx6 hA6 HA5 HK5 HMQ HCY
              go_wp2_with (at_builtin; refine wpList_append_rd _ rfl _ _ rfl i8T w4.heap.size (.slice Ap2 q cp2) q _ rfl (HA6.out.bstep ((Below.refl w6.heap.size w6).alloc (Nat.le_refl _) _)).num _ 1 [_] rfl (Rd.lit w6 3 [.int .i64 (y0 : Int)] 1 rfl (by omega)) ?c1 ?c2 ?c3 ?c4 ?_)
              case c1 => simp [Value.oneCell']
              case c2 => unfold maxLen; omega
              case c3 => omega
              case c4 => rw [World.size_alloc]; omega
              intro v9 w9 hown9 hg9 hx9
              obtain ⟨A9, c9, e9⟩ := own_slice hown9
              subst e9
              rw [← HNUM.out] at hown9
              have hA9 := (HA6.out.bstep ((Below.refl w6.heap.size w6).alloc (Nat.le_refl _) (.cells #[.int .i64 (y0 : Int)] 3))).addp hown9 hg9 (by rw [World.size_alloc]; exact hx9)
              have HA9 := Lib.hid hA9
              clear hown9 hg9 hx9 hA9 HA6 HNUM hcy6
              go_wp2
              exact ⟨⟨q + 1, by omega, by go_num, _, HA9⟩, by simp [intOf]; omega⟩
            · obtain rfl : q = M + 1 := by omega
              go_wp2
              go_ret3
              have hM := HM.out
              subst hM
              exact ⟨Ao2, co2, Ap2, cp2, vs2, rfl, Rd.of_own HA.out.out, HA.out.len, fun i v m h1 h2 => (HA.out.sl i v m h1 h2).1, Rd.of_own HA.out.num, below_step HB40.out HB40.out.size HA.out.below⟩
end Go.Proofs.YtnlkmcbhhljajaaDoor
