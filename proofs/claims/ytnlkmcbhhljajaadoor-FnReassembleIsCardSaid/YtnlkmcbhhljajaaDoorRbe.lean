/- The contract of spec.Pieces. Conditions: few and short messages; the size is at least 1. -/
import Derived.Test.YtnlkmcbhhljajaaDoorRbd
import Derived.Test.YtnlkmcbhhljajaaDoorRaM
namespace Go.Proofs.YtnlkmcbhhljajaaDoor
open Go.RowKit Go.Lib

/-- The pieces while they are cut. -/
structure Pcs (first st : Nat) (w0 w : World) (o : Value) (ds : List (Value × Pc)) (n : Nat) : Prop where
  own : w.ownsRow w0.heap.size 36 9 o n (flat (dcs first st) ds)
  len : ds.length = n
  sl : ∀ d ∈ ds, Sl w0 d.1 d.2.u
  below : Below w0.heap.size w0 w
theorem Pcs.bstep {first st : Nat} {w0 w w' : World} {o : Value} {ds : List (Value × Pc)} {n : Nat} (h : Pcs first st w0 w o ds n) (hb : Below w.heap.size w w') : Pcs first st w0 w' o ds n := ⟨own_below h.own hb, h.len, h.sl, below_step h.below h.below.size hb⟩
theorem Pcs.add {first st : Nat} {w0 w w' : World} {o o' : Value} {ds : List (Value × Pc)} {n : Nat} {d : Value × Pc} (h : Pcs first st w0 w o ds n) (hown : w'.ownsRow w0.heap.size 36 9 o' (n + 1) (flat (dcs first st) ds ++ dcs first st d)) (hg : w.grownBy w' o.ownBlock) (hd : Sl w0 d.1 d.2.u) : Pcs first st w0 w' o' (ds ++ [d]) (n + 1) :=
  ⟨by rw [flat_append, flat_one]; exact hown, by simp [h.len], fun e he => by
    rcases List.mem_append.1 he with h1 | h1
    · exact h.sl e h1
    · obtain rfl := List.mem_singleton.1 h1
      exact hd, h.below.grown hg h.below.size (fun g e => (h.own.lt g e).1)⟩

/-- A piece cut out of a message. -/
theorem cut_piece {w0 : World} {A : Option Addr} {L c a e : Nat} {m : List UInt8} (lo hi : Int) (h : Sl w0 (.slice A L c) m) (ha : a < e) (he : e ≤ L) (hlo : lo = (a : Int)) (hhi : hi = (e : Int)) : ∃ g o n3 c3, (∀ w, (Instr.slice 26 (.slice A L c) (some (.int .i64 lo)) (some (.int .i64 hi)) none).run Tryd.prog w = .ok (.slice (some ⟨g, o, none⟩) n3 c3) w) ∧ Sl w0 (.slice (some ⟨g, o, none⟩) n3 c3) ((m.drop a).take (e - a)) := by
  subst hlo hhi
  have hL := h.len
  obtain ⟨A', c', hv, hn, hm, hl, h0, hc⟩ := h
  injection hv with e1 e2 e3
  subst e1 e3
  obtain ⟨g, o, rfl, hg⟩ := hc (by omega)
  have hlen : ((m.drop a).take (e - a)).length = e - a := by rw [List.length_take, List.length_drop]; omega
  refine ⟨g, o + a, e - a, c - a, fun w => ?_, ?_⟩
  · have hs : (sizeOf (Tryd.prog.elem 26)).run Tryd.prog w = .ok 1 w := by kernel_rfl
    rw [run_slice_lh w _ _ _ _ (by kernel_rfl) .i64 .i64 _ _ (by omega) (by omega) (by omega), hs]
    have hne : ¬ (c = a) := by omega
    simp [sliced, Result.andThen, Addr.add, hne]
  · unfold Sl
    rw [hlen]
    refine ⟨_, c - a, rfl, by omega, by omega, by rw [bvs_length, hlen, Nat.mul_one], (fun h => by cases h), fun _ => ⟨g, o + a, rfl, fun j u hu => ?_⟩⟩
    rw [Nat.add_assoc]
    refine hg (a + j) u ?_
    have hj := (List.getElem?_eq_some_iff.1 hu).1
    rw [bvs_length, hlen] at hj
    unfold bvs at hu ⊢
    rw [List.getElem?_map, List.getElem?_take, if_pos hj, List.getElem?_drop] at hu
    rw [List.getElem?_map]
    exact hu
theorem cells_eq {first st q size N j N2 : Nat} {m : List UInt8} {v : Value} {b el : Bool} (hb : b = decide (j = 0)) (he : el = decide (m.length ≤ (j + 1) * size)) (hN : N2 = N + j) :
    #[.bool false, .bool b, .bool el, .bool false, .int .u32 (((first : Int) + (N2 : Int)) % 4294967296), .int .i64 (st : Int), .int .i64 (q : Int), .int .u32 (50 + (q : Int)), v] = (dcs first st (v, pc size q N m j)).toArray := by
  subst hN
  unfold dcs pc tsnOf
  simp [hb, he]
theorem take_piece {m : List UInt8} {a size e : Nat} (he : (m.length = e ∧ m.length ≤ a + size) ∨ a + size = e) : (m.drop a).take (e - a) = (m.drop a).take size := by
  rcases he with ⟨h1, h2⟩ | h
  · rw [List.take_of_length_le (by rw [List.length_drop]; omega), List.take_of_length_le (by rw [List.length_drop]; omega)]
  · rw [show e - a = size by omega]

/-- What Pieces returns. -/
def PieR (first st size : Nat) (ms : List (List UInt8)) (w : World) (z : Ending) (w' : World) : Prop :=
  ∃ (A : Option Addr) (n c : Nat) (ds : List (Value × Pc)), z = .returned (.slice A n c) ∧ n = ds.length ∧ Rd w' 9 n (.slice A n c) (flat (dcs first st) ds) ∧ ds.map (·.2) = allp size 0 0 ms ∧ (∀ d ∈ ds, Sl w d.1 d.2.u) ∧ Below w.heap.size w w'

set_option maxRecDepth 20000 in
set_option maxHeartbeats 1600000 in
theorem pieces_any (first st size : Nat) (ms : List (List UInt8)) (A : Option Addr) (n c : Nat) (vs : List Value) (w : World) (hS : Small size ms) (hf : first < 4294967296) (hsz : size ≤ 200) (h : MsgsAt w A c vs ms) (hn : n = vs.length) :
    Calls Tryd.prog 7 #[.int .u32 (first : Int), .int .i64 (st : Int), .slice A n c, .int .i64 (size : Int)] w (PieR first st size ms w) := by
  obtain ⟨hl, hr, hs⟩ := h
  rw [← hn] at hr
  obtain ⟨A', c', hv, hnc, hcm, hl0, h0, hc⟩ := hr
  injection hv with e1 e2 e3
  subst e1 e3
  have hs1 := hS.size
  have few := hS.few
  have hn20 : n ≤ 20 := by omega
  have HC := Lib.hid hc
  have HS := Lib.hid hs
  have Hn := Lib.hid hn
  have HL := Lib.hid hl
  have HI : Hid (Pcs first st w (w.alloc (.cells #[] 36)) (.slice (some ⟨w.heap.size, 0, none⟩) 0 0) [] 0) := Lib.hid ⟨(Row.new w 36 #[]).own (Nat.le_refl _) rfl (Nat.zero_le _), rfl, fun d h => (by cases h), (Below.refl _ _).alloc (Nat.le_refl _) _⟩
  clear hc hs hn hl hl0 h0 e2 few
  unfold maxLen at hcm
  go_enter Tryd.func7, Tryd.ntmps7
  go_wp2_with fail
  go_loopw [9, 18] (fun o i wr => ∃ q N : Nat, q ≤ n ∧ i = .int .i64 (q : Int) ∧ N ≤ q * 200 ∧ ∃ ds, Hid (Pcs first st w wr o ds N) ∧ Hid (ds.map (·.2) = allp size 0 0 (ms.take q))) (fun _ i _ => n - (intOf i).toNat)
  case atStart => exact ⟨0, 0, Nat.zero_le _, rfl, Nat.zero_le _, [], HI, Lib.hid rfl⟩
  case round =>
    clear HI
    obtain ⟨q, N, hq, rfl, hN, ds, HD, HE⟩ := hrel
    obtain ⟨Ao, co, eo⟩ := own_slice HD.out.own
    subst eo
    by_cases hlt : q < n
    · obtain ⟨g, o, eA, hg⟩ := HC.out (by omega)
      subst eA
      have hlv : q < vs.length := by have := Hn.out; omega
      have hlm : q < ms.length := by have := HL.out; omega
      have hx : vs[q]? = some vs[q] := List.getElem?_eq_getElem hlv
      have hy : ms[q]? = some ms[q] := List.getElem?_eq_getElem hlm
      generalize vs[q] = x at hx
      generalize ms[q] = m at hy
      have hcx := hg q x hx
      have hsm := HS.out q x m hx hy
      obtain ⟨Am, cm, ex, hcm1, hcm2, _, _, _⟩ := id hsm
      subst ex
      have hcx' : wr.cell? ⟨g, o + q, none⟩ = some (.slice Am m.length cm) := (HD.out.below.cell (World.block_lt_of_cell? w _ hcx)).trans hcx
      have hmn := hS.short m (List.mem_of_getElem? hy)
      have HY := Lib.hid hy
      have HSM := Lib.hid hsm
      obtain ⟨L, hL⟩ : ∃ L, L = m.length := ⟨_, rfl⟩
      rw [← hL] at hcx' hmn hcm1
      have HLL := Lib.hid hL
      have HJ : Hid (ds.map (·.2) = allp size 0 0 (ms.take q) ++ (List.range 0).map (pc size q N m)) := Lib.hid (by rw [HE.out]; simp)
      have hNT : Hid (N = (allp size 0 0 (ms.take q)).length) := Lib.hid (by rw [← HE.out, List.length_map, HD.out.len])
      clear hx hy hcx hsm hg hL
      go_wp2_with fail
      clear hcx'
      go_loopw [9, 12] (fun o2 t w1 => ∃ (j a N2 : Nat) (ds2 : List (Value × Pc)), t = .int .i64 (a : Int) ∧ Hid (N2 = N + j) ∧ N2 ≤ 4400 ∧ j ≤ 200 ∧ a ≤ 400 ∧ Hid (a = j * size) ∧ Hid (j ≤ npc size m) ∧ Hid (Pcs first st w w1 o2 ds2 N2) ∧ Hid (ds2.map (·.2) = allp size 0 0 (ms.take q) ++ (List.range j).map (pc size q N m))) (fun _ t _ => L - (intOf t).toNat)
      case atStart => exact ⟨0, 0, N, ds, rfl, Lib.hid rfl, by omega, Nat.zero_le _, Nat.zero_le _, Lib.hid (by simp), Lib.hid (Nat.zero_le _), HD, HJ⟩
      case round =>
        clear HD HJ HE
        obtain ⟨j, a, N2, ds2, rfl, HN2, hN2, hj, ha, HA, HJN, HD, HJ⟩ := hrel
        obtain ⟨Ao2, co2, eo⟩ := own_slice HD.out.own
        subst eo
        by_cases hlt2 : a < L
        · obtain ⟨b, HBB, hb⟩ : ∃ b : Bool, Hid (b = decide (j = 0)) ∧ ((b = true ∧ a = 0) ∨ (b = false ∧ ¬ a = 0)) := by
            have h1 := HA.out
            refine ⟨decide (j = 0), Lib.hid rfl, ?_⟩
            by_cases h0 : j = 0
            · left
              subst h0
              exact ⟨rfl, by rw [h1, Nat.zero_mul]⟩
            · right
              have : j ≤ j * size := Nat.le_mul_of_pos_right _ hs1
              exact ⟨by simp [h0], by omega⟩
          obtain ⟨el, e, HEL, he⟩ : ∃ (el : Bool) (e : Nat), Hid (el = decide (m.length ≤ (j + 1) * size)) ∧ ((el = true ∧ L = e ∧ L ≤ a + size) ∨ (el = false ∧ a + size = e ∧ a + size < L)) := by
            have h1 := HA.out
            have h2 := HLL.out
            have h3 : (j + 1) * size = a + size := by rw [h1, Nat.succ_mul]
            rcases Nat.lt_or_ge (a + size) L with h4 | h4
            · exact ⟨false, a + size, Lib.hid (by rw [h3]; symm; rw [decide_eq_false_iff_not]; omega), .inr ⟨rfl, rfl, h4⟩⟩
            · exact ⟨true, L, Lib.hid (by rw [h3]; symm; rw [decide_eq_true_eq]; omega), .inl ⟨rfl, rfl, h4⟩⟩
          have hae : a < e ∧ e ≤ L := by rcases he with ⟨_, h1, h2⟩ | ⟨_, h1, h2⟩ <;> omega
          have htk : (m.drop a).take (e - a) = (m.drop a).take size := take_piece (by rcases he with ⟨_, h1, h2⟩ | ⟨_, h1, h2⟩; (left; rw [← HLL.out]; exact ⟨h1, h2⟩); exact .inr h1)
          have hsm2 := HSM.out
          rw [← HLL.out] at hsm2
          have HTK := Lib.hid htk
          clear htk
          rcases hb with ⟨rfl, rfl⟩ | ⟨rfl, ha0⟩
          · rcases he with ⟨rfl, rfl, hle⟩ | ⟨rfl, rfl, hle⟩
            · obtain ⟨gp, op, n3, c3, hcut, hsp⟩ := cut_piece 0 (L : Int) hsm2 hae.1 hae.2 (by omega) (by omega)
              have hmin : min (size : Int) (L : Int) = (L : Int) := by omega
              clear hsm2
              go_upto_region 10 with fail
              rw [cells_eq (first := first) (st := st) (q := q) (v := .slice (some ⟨gp, op, none⟩) n3 c3) HBB.out HEL.out HN2.out]
              have HSP : Hid (Sl w (.slice (some ⟨gp, op, none⟩) n3 c3) (pc size q N m j).u) := Lib.hid (by rw [HTK.out] at hsp; unfold pc; rw [← HA.out]; exact hsp)
              generalize hd : ((.slice (some ⟨gp, op, none⟩) n3 c3, pc size q N m j) : Value × Pc) = d
              have hdv : d.1 = .slice (some ⟨gp, op, none⟩) n3 c3 := by rw [← hd]
              have HDP : Hid (d.2 = pc size q N m j) := Lib.hid (by rw [← hd])
              have h1 : (dcs first st d).toArray.all (·.oneCell') = true := by simp [dcs, Value.oneCell', hdv]
              have HSD : Hid (Sl w d.1 d.2.u) := Lib.hid (by rw [hdv, HDP.out]; exact HSP.out)
              obtain ⟨x0, x1, x2, x3, x4, x5, x6, x7, x8, hxs⟩ : ∃ x0 x1 x2 x3 x4 x5 x6 x7 x8, dcs first st d = [x0, x1, x2, x3, x4, x5, x6, x7, x8] := ⟨_, _, _, _, _, _, _, _, _, rfl⟩
              rw [hxs] at h1 ⊢
              have HXS := Lib.hid hxs
              have h2 : ∀ u ∈ [x0, x1, x2, x3, x4, x5, x6, x7, x8], u.oneCell' = true := fun u hu => (Array.all_eq_true_iff_forall_mem.1 h1) u (by simpa using hu)
              have HD1 := Lib.hid (HD.out.bstep ((Below.refl wr.heap.size wr).alloc (Nat.le_refl _) (.cells #[x0, x1, x2, x3, x4, x5, x6, x7, x8] 36)))
              have HROW := Lib.hid (Row.new wr 36 #[x0, x1, x2, x3, x4, x5, x6, x7, x8])
              clear hsp hcut hmin hd hdv HD HSP hxs h1
              generalize wr.alloc (.cells #[x0, x1, x2, x3, x4, x5, x6, x7, x8] 36) = wa at HD1 HROW ⊢
              have hza := HD1.out.below.size
              go_wp2_with (first | (refine wpList_load_row rfl 36 _ rfl wr.heap.size rfl 36 #[x0, x1, x2, x3, x4, x5, x6, x7, x8] (0, 0) _ HROW.out Tryd.underlying36 rfl da_info ?_) | (at_builtin; refine wpList_append_rd _ rfl _ _ rfl dT w.heap.size (.slice Ao2 N2 co2) N2 (flat (dcs first st) ds2) rfl (HD1.out.bstep ((Below.refl wa.heap.size wa).alloc (Nat.le_refl _) (.cells #[x0, x1, x2, x3, x4, x5, x6, x7, x8] 36))).own _ 1 [x0, x1, x2, x3, x4, x5, x6, x7, x8] rfl (Rd.lit9 wa 36 [x0, x1, x2, x3, x4, x5, x6, x7, x8] 9 rfl) h2 ?c2 ?c3 ?c4 ?_))
              case c2 => unfold maxLen; omega
              case c3 => omega
              case c4 => omega
              intro v5 w5 hown5 hg5 hx5
              clear hx5
              obtain ⟨A5, c5, e5⟩ := own_slice hown5
              subst e5
              rw [← HXS.out] at hown5
              have hD5 := (HD1.out.bstep ((Below.refl wa.heap.size wa).alloc (Nat.le_refl _) (.cells #[x0, x1, x2, x3, x4, x5, x6, x7, x8] 36))).add hown5 hg5 HSD.out
              have HD5 := Lib.hid hD5
              have HJ5 : Hid ((ds2 ++ [d]).map (·.2) = allp size 0 0 (ms.take q) ++ (List.range (j + 1)).map (pc size q N m)) := Lib.hid (by rw [List.map_append, HJ.out, List.range_succ, List.map_append, List.append_assoc]; simp [HDP.out])
              have HN5 : Hid (N2 + 1 = N + (j + 1)) := Lib.hid (by rw [HN2.out]; omega)
              have HA5 : Hid (0 + size = (j + 1) * size) := Lib.hid (by rw [Nat.succ_mul, ← HA.out])
              have hjn : j < npc size m := (npc_lt hs1 j).2 (by rw [← HA.out, ← HLL.out]; exact hlt2)
              have hnp := npc_le (m := m) hs1
              have hll := HLL.out
              have HJN5 : Hid (j + 1 ≤ npc size m) := Lib.hid hjn
              have hj2 : j + 1 ≤ 200 := by omega
              clear hown5 hg5 hD5 HD1 HROW HSD h2 HDP HXS hnp hll hjn
              go_wp2
              exact ⟨⟨j + 1, 0 + size, N2 + 1, ds2 ++ [d], by go_num, HN5, by have := HN2.out; omega, hj2, by omega, HA5, HJN5, HD5, HJ5⟩, by simp [intOf]; omega⟩
            · obtain ⟨gp, op, n3, c3, hcut, hsp⟩ := cut_piece 0 (size : Int) hsm2 hae.1 hae.2 (by omega) (by omega)
              have hmin : min (size : Int) (L : Int) = (size : Int) := by omega
              have he1 : (((size : Int)) == (L : Int)) = false := by rw [beq_eq_false_iff_ne]; omega
              clear hsm2
              go_upto_region 10 with fail
              rw [cells_eq (first := first) (st := st) (q := q) (v := .slice (some ⟨gp, op, none⟩) n3 c3) HBB.out HEL.out HN2.out]
              have HSP : Hid (Sl w (.slice (some ⟨gp, op, none⟩) n3 c3) (pc size q N m j).u) := Lib.hid (by rw [HTK.out] at hsp; unfold pc; rw [← HA.out]; exact hsp)
              generalize hd : ((.slice (some ⟨gp, op, none⟩) n3 c3, pc size q N m j) : Value × Pc) = d
              have hdv : d.1 = .slice (some ⟨gp, op, none⟩) n3 c3 := by rw [← hd]
              have HDP : Hid (d.2 = pc size q N m j) := Lib.hid (by rw [← hd])
              have h1 : (dcs first st d).toArray.all (·.oneCell') = true := by simp [dcs, Value.oneCell', hdv]
              have HSD : Hid (Sl w d.1 d.2.u) := Lib.hid (by rw [hdv, HDP.out]; exact HSP.out)
              obtain ⟨x0, x1, x2, x3, x4, x5, x6, x7, x8, hxs⟩ : ∃ x0 x1 x2 x3 x4 x5 x6 x7 x8, dcs first st d = [x0, x1, x2, x3, x4, x5, x6, x7, x8] := ⟨_, _, _, _, _, _, _, _, _, rfl⟩
              rw [hxs] at h1 ⊢
              have HXS := Lib.hid hxs
              have h2 : ∀ u ∈ [x0, x1, x2, x3, x4, x5, x6, x7, x8], u.oneCell' = true := fun u hu => (Array.all_eq_true_iff_forall_mem.1 h1) u (by simpa using hu)
              have HD1 := Lib.hid (HD.out.bstep ((Below.refl wr.heap.size wr).alloc (Nat.le_refl _) (.cells #[x0, x1, x2, x3, x4, x5, x6, x7, x8] 36)))
              have HROW := Lib.hid (Row.new wr 36 #[x0, x1, x2, x3, x4, x5, x6, x7, x8])
              clear hsp hcut hmin hd hdv HD HSP hxs h1
              generalize wr.alloc (.cells #[x0, x1, x2, x3, x4, x5, x6, x7, x8] 36) = wa at HD1 HROW ⊢
              have hza := HD1.out.below.size
              go_wp2_with (first | (refine wpList_load_row rfl 36 _ rfl wr.heap.size rfl 36 #[x0, x1, x2, x3, x4, x5, x6, x7, x8] (0, 0) _ HROW.out Tryd.underlying36 rfl da_info ?_) | (at_builtin; refine wpList_append_rd _ rfl _ _ rfl dT w.heap.size (.slice Ao2 N2 co2) N2 (flat (dcs first st) ds2) rfl (HD1.out.bstep ((Below.refl wa.heap.size wa).alloc (Nat.le_refl _) (.cells #[x0, x1, x2, x3, x4, x5, x6, x7, x8] 36))).own _ 1 [x0, x1, x2, x3, x4, x5, x6, x7, x8] rfl (Rd.lit9 wa 36 [x0, x1, x2, x3, x4, x5, x6, x7, x8] 9 rfl) h2 ?c2 ?c3 ?c4 ?_))
              case c2 => unfold maxLen; omega
              case c3 => omega
              case c4 => omega
              intro v5 w5 hown5 hg5 hx5
              clear hx5
              obtain ⟨A5, c5, e5⟩ := own_slice hown5
              subst e5
              rw [← HXS.out] at hown5
              have hD5 := (HD1.out.bstep ((Below.refl wa.heap.size wa).alloc (Nat.le_refl _) (.cells #[x0, x1, x2, x3, x4, x5, x6, x7, x8] 36))).add hown5 hg5 HSD.out
              have HD5 := Lib.hid hD5
              have HJ5 : Hid ((ds2 ++ [d]).map (·.2) = allp size 0 0 (ms.take q) ++ (List.range (j + 1)).map (pc size q N m)) := Lib.hid (by rw [List.map_append, HJ.out, List.range_succ, List.map_append, List.append_assoc]; simp [HDP.out])
              have HN5 : Hid (N2 + 1 = N + (j + 1)) := Lib.hid (by rw [HN2.out]; omega)
              have HA5 : Hid (0 + size = (j + 1) * size) := Lib.hid (by rw [Nat.succ_mul, ← HA.out])
              have hjn : j < npc size m := (npc_lt hs1 j).2 (by rw [← HA.out, ← HLL.out]; exact hlt2)
              have hnp := npc_le (m := m) hs1
              have hll := HLL.out
              have HJN5 : Hid (j + 1 ≤ npc size m) := Lib.hid hjn
              have hj2 : j + 1 ≤ 200 := by omega
              clear hown5 hg5 hD5 HD1 HROW HSD h2 HDP HXS hnp hll hjn
              go_wp2
              exact ⟨⟨j + 1, 0 + size, N2 + 1, ds2 ++ [d], by go_num, HN5, by have := HN2.out; omega, hj2, by omega, HA5, HJN5, HD5, HJ5⟩, by simp [intOf]; omega⟩
          · rcases he with ⟨rfl, rfl, hle⟩ | ⟨rfl, rfl, hle⟩
            · obtain ⟨gp, op, n3, c3, hcut, hsp⟩ := cut_piece (a : Int) (L : Int) hsm2 hae.1 hae.2 (by omega) (by omega)
              have hmin : min ((a : Int) + (size : Int)) (L : Int) = (L : Int) := by omega
              have hb1 : ((a : Int) == 0) = false := by rw [beq_eq_false_iff_ne]; omega
              clear hsm2
              go_upto_region 10 with fail
              rw [cells_eq (first := first) (st := st) (q := q) (v := .slice (some ⟨gp, op, none⟩) n3 c3) HBB.out HEL.out HN2.out]
              have HSP : Hid (Sl w (.slice (some ⟨gp, op, none⟩) n3 c3) (pc size q N m j).u) := Lib.hid (by rw [HTK.out] at hsp; unfold pc; rw [← HA.out]; exact hsp)
              generalize hd : ((.slice (some ⟨gp, op, none⟩) n3 c3, pc size q N m j) : Value × Pc) = d
              have hdv : d.1 = .slice (some ⟨gp, op, none⟩) n3 c3 := by rw [← hd]
              have HDP : Hid (d.2 = pc size q N m j) := Lib.hid (by rw [← hd])
              have h1 : (dcs first st d).toArray.all (·.oneCell') = true := by simp [dcs, Value.oneCell', hdv]
              have HSD : Hid (Sl w d.1 d.2.u) := Lib.hid (by rw [hdv, HDP.out]; exact HSP.out)
              obtain ⟨x0, x1, x2, x3, x4, x5, x6, x7, x8, hxs⟩ : ∃ x0 x1 x2 x3 x4 x5 x6 x7 x8, dcs first st d = [x0, x1, x2, x3, x4, x5, x6, x7, x8] := ⟨_, _, _, _, _, _, _, _, _, rfl⟩
              rw [hxs] at h1 ⊢
              have HXS := Lib.hid hxs
              have h2 : ∀ u ∈ [x0, x1, x2, x3, x4, x5, x6, x7, x8], u.oneCell' = true := fun u hu => (Array.all_eq_true_iff_forall_mem.1 h1) u (by simpa using hu)
              have HD1 := Lib.hid (HD.out.bstep ((Below.refl wr.heap.size wr).alloc (Nat.le_refl _) (.cells #[x0, x1, x2, x3, x4, x5, x6, x7, x8] 36)))
              have HROW := Lib.hid (Row.new wr 36 #[x0, x1, x2, x3, x4, x5, x6, x7, x8])
              clear hsp hcut hmin hd hdv HD HSP hxs h1
              generalize wr.alloc (.cells #[x0, x1, x2, x3, x4, x5, x6, x7, x8] 36) = wa at HD1 HROW ⊢
              have hza := HD1.out.below.size
              go_wp2_with (first | (refine wpList_load_row rfl 36 _ rfl wr.heap.size rfl 36 #[x0, x1, x2, x3, x4, x5, x6, x7, x8] (0, 0) _ HROW.out Tryd.underlying36 rfl da_info ?_) | (at_builtin; refine wpList_append_rd _ rfl _ _ rfl dT w.heap.size (.slice Ao2 N2 co2) N2 (flat (dcs first st) ds2) rfl (HD1.out.bstep ((Below.refl wa.heap.size wa).alloc (Nat.le_refl _) (.cells #[x0, x1, x2, x3, x4, x5, x6, x7, x8] 36))).own _ 1 [x0, x1, x2, x3, x4, x5, x6, x7, x8] rfl (Rd.lit9 wa 36 [x0, x1, x2, x3, x4, x5, x6, x7, x8] 9 rfl) h2 ?c2 ?c3 ?c4 ?_))
              case c2 => unfold maxLen; omega
              case c3 => omega
              case c4 => omega
              intro v5 w5 hown5 hg5 hx5
              clear hx5
              obtain ⟨A5, c5, e5⟩ := own_slice hown5
              subst e5
              rw [← HXS.out] at hown5
              have hD5 := (HD1.out.bstep ((Below.refl wa.heap.size wa).alloc (Nat.le_refl _) (.cells #[x0, x1, x2, x3, x4, x5, x6, x7, x8] 36))).add hown5 hg5 HSD.out
              have HD5 := Lib.hid hD5
              have HJ5 : Hid ((ds2 ++ [d]).map (·.2) = allp size 0 0 (ms.take q) ++ (List.range (j + 1)).map (pc size q N m)) := Lib.hid (by rw [List.map_append, HJ.out, List.range_succ, List.map_append, List.append_assoc]; simp [HDP.out])
              have HN5 : Hid (N2 + 1 = N + (j + 1)) := Lib.hid (by rw [HN2.out]; omega)
              have HA5 : Hid (a + size = (j + 1) * size) := Lib.hid (by rw [Nat.succ_mul, ← HA.out])
              have hjn : j < npc size m := (npc_lt hs1 j).2 (by rw [← HA.out, ← HLL.out]; exact hlt2)
              have hnp := npc_le (m := m) hs1
              have hll := HLL.out
              have HJN5 : Hid (j + 1 ≤ npc size m) := Lib.hid hjn
              have hj2 : j + 1 ≤ 200 := by omega
              clear hown5 hg5 hD5 HD1 HROW HSD h2 HDP HXS hnp hll hjn
              go_wp2
              exact ⟨⟨j + 1, a + size, N2 + 1, ds2 ++ [d], by go_num, HN5, by have := HN2.out; omega, hj2, by omega, HA5, HJN5, HD5, HJ5⟩, by simp [intOf]; omega⟩
            · obtain ⟨gp, op, n3, c3, hcut, hsp⟩ := cut_piece (a : Int) ((a : Int) + (size : Int)) hsm2 hae.1 hae.2 (by omega) (by omega)
              have hmin : min ((a : Int) + (size : Int)) (L : Int) = ((a : Int) + (size : Int)) := by omega
              have hb1 : ((a : Int) == 0) = false := by rw [beq_eq_false_iff_ne]; omega
              have he1 : (((a : Int) + (size : Int)) == (L : Int)) = false := by rw [beq_eq_false_iff_ne]; omega
              clear hsm2
              go_upto_region 10 with fail
              rw [cells_eq (first := first) (st := st) (q := q) (v := .slice (some ⟨gp, op, none⟩) n3 c3) HBB.out HEL.out HN2.out]
              have HSP : Hid (Sl w (.slice (some ⟨gp, op, none⟩) n3 c3) (pc size q N m j).u) := Lib.hid (by rw [HTK.out] at hsp; unfold pc; rw [← HA.out]; exact hsp)
              generalize hd : ((.slice (some ⟨gp, op, none⟩) n3 c3, pc size q N m j) : Value × Pc) = d
              have hdv : d.1 = .slice (some ⟨gp, op, none⟩) n3 c3 := by rw [← hd]
              have HDP : Hid (d.2 = pc size q N m j) := Lib.hid (by rw [← hd])
              have h1 : (dcs first st d).toArray.all (·.oneCell') = true := by simp [dcs, Value.oneCell', hdv]
              have HSD : Hid (Sl w d.1 d.2.u) := Lib.hid (by rw [hdv, HDP.out]; exact HSP.out)
              obtain ⟨x0, x1, x2, x3, x4, x5, x6, x7, x8, hxs⟩ : ∃ x0 x1 x2 x3 x4 x5 x6 x7 x8, dcs first st d = [x0, x1, x2, x3, x4, x5, x6, x7, x8] := ⟨_, _, _, _, _, _, _, _, _, rfl⟩
              rw [hxs] at h1 ⊢
              have HXS := Lib.hid hxs
              have h2 : ∀ u ∈ [x0, x1, x2, x3, x4, x5, x6, x7, x8], u.oneCell' = true := fun u hu => (Array.all_eq_true_iff_forall_mem.1 h1) u (by simpa using hu)
              have HD1 := Lib.hid (HD.out.bstep ((Below.refl wr.heap.size wr).alloc (Nat.le_refl _) (.cells #[x0, x1, x2, x3, x4, x5, x6, x7, x8] 36)))
              have HROW := Lib.hid (Row.new wr 36 #[x0, x1, x2, x3, x4, x5, x6, x7, x8])
              clear hsp hcut hmin hd hdv HD HSP hxs h1
              generalize wr.alloc (.cells #[x0, x1, x2, x3, x4, x5, x6, x7, x8] 36) = wa at HD1 HROW ⊢
              have hza := HD1.out.below.size
              go_wp2_with (first | (refine wpList_load_row rfl 36 _ rfl wr.heap.size rfl 36 #[x0, x1, x2, x3, x4, x5, x6, x7, x8] (0, 0) _ HROW.out Tryd.underlying36 rfl da_info ?_) | (at_builtin; refine wpList_append_rd _ rfl _ _ rfl dT w.heap.size (.slice Ao2 N2 co2) N2 (flat (dcs first st) ds2) rfl (HD1.out.bstep ((Below.refl wa.heap.size wa).alloc (Nat.le_refl _) (.cells #[x0, x1, x2, x3, x4, x5, x6, x7, x8] 36))).own _ 1 [x0, x1, x2, x3, x4, x5, x6, x7, x8] rfl (Rd.lit9 wa 36 [x0, x1, x2, x3, x4, x5, x6, x7, x8] 9 rfl) h2 ?c2 ?c3 ?c4 ?_))
              case c2 => unfold maxLen; omega
              case c3 => omega
              case c4 => omega
              intro v5 w5 hown5 hg5 hx5
              clear hx5
              obtain ⟨A5, c5, e5⟩ := own_slice hown5
              subst e5
              rw [← HXS.out] at hown5
              have hD5 := (HD1.out.bstep ((Below.refl wa.heap.size wa).alloc (Nat.le_refl _) (.cells #[x0, x1, x2, x3, x4, x5, x6, x7, x8] 36))).add hown5 hg5 HSD.out
              have HD5 := Lib.hid hD5
              have HJ5 : Hid ((ds2 ++ [d]).map (·.2) = allp size 0 0 (ms.take q) ++ (List.range (j + 1)).map (pc size q N m)) := Lib.hid (by rw [List.map_append, HJ.out, List.range_succ, List.map_append, List.append_assoc]; simp [HDP.out])
              have HN5 : Hid (N2 + 1 = N + (j + 1)) := Lib.hid (by rw [HN2.out]; omega)
              have HA5 : Hid (a + size = (j + 1) * size) := Lib.hid (by rw [Nat.succ_mul, ← HA.out])
              have hjn : j < npc size m := (npc_lt hs1 j).2 (by rw [← HA.out, ← HLL.out]; exact hlt2)
              have hnp := npc_le (m := m) hs1
              have hll := HLL.out
              have HJN5 : Hid (j + 1 ≤ npc size m) := Lib.hid hjn
              have hj2 : j + 1 ≤ 200 := by omega
              clear hown5 hg5 hD5 HD1 HROW HSD h2 HDP HXS hnp hll hjn
              go_wp2
              exact ⟨⟨j + 1, a + size, N2 + 1, ds2 ++ [d], by go_num, HN5, by have := HN2.out; omega, hj2, by omega, HA5, HJN5, HD5, HJ5⟩, by simp [intOf]; omega⟩
        · have hjn : j = npc size m := by
            have h1 := (npc_lt (m := m) hs1 j).1
            have h2 := HJN.out
            have h3 := HA.out
            have h4 := HLL.out
            rcases Nat.lt_or_ge j (npc size m) with h5 | h5
            · have := h1 h5
              omega
            · omega
          have hql : (ms.take q).length = q := by rw [List.length_take]; omega
          have HE2 : Hid (ds2.map (·.2) = allp size 0 0 (ms.take (q + 1))) := Lib.hid (by
            rw [HJ.out, List.take_add_one, HY.out, Option.toList_some, allp_snoc, hql, Nat.zero_add, Nat.zero_add, ← hNT.out, hjn]
            rfl)
          have hN2' : N2 ≤ (q + 1) * 200 := by have := HN2.out; omega
          clear hjn hql HJ HJN HA HN2
          go_wp2
          exact ⟨⟨q + 1, N2, by omega, by go_num, hN2', ds2, HD, HE2⟩, by simp [intOf]; omega⟩
    · obtain rfl : q = n := by omega
      have hqn : ms.take q = ms := by rw [List.take_of_length_le]; have := HL.out; have := Hn.out; omega
      go_wp2
      go_ret
      have hE := HE.out
      rw [hqn] at hE
      exact ⟨Ao, N, co, ds, rfl, HD.out.len.symm, Rd.of_own HD.out.own, hE, HD.out.sl, HD.out.below⟩
end Go.Proofs.YtnlkmcbhhljajaaDoor
