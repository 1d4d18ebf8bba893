/- Contracts of the reference's flag, Params and Init. Conditions: the numbers fit, bounds on lengths. -/
import Derived.Test.YtokkhfjlbnochaaDoorInk
import Derived.Test.YtokkhfjlbnochaaDoorZer
import Derived.Test.YtokkhfjlbnochaaDoorInc
namespace Go.Proofs.YtokkhfjlbnochaaDoor
open Go.RowKit Go.Lib

theorem kflag_any (b : Bool) (w : World) (z : Int) (hz : z = if b then 1 else 0) : Calls Tryd.prog 16 #[.bool b, .int .i64 1] w fun e w' => e = .returned (.int .i64 z) ∧ w = w' := by
  subst hz
  cases b
  all_goals
    go_enter Tryd.func16, Tryd.ntmps16
    go_wp2
    go_ret
    exact ⟨rfl, rfl⟩

/-- A parameter's type and length fit. -/
def Fit (p : Pm) : Prop := 0 ≤ p.ty ∧ p.ty ≤ 65535 ∧ p.l.length ≤ 65531

theorem kpiece_len {ds : List (Int × List UInt8)} {k : Nat} {d : Int × List UInt8} (h : ds[k]? = some d) : (kpiece ds k).length ≤ 4 + d.2.length + 3 := by
  have := padN_lt (4 + d.2.length)
  by_cases hk : k + 1 < ds.length
  · rw [kpiece_mid h hk, padded_length, tlv_length]; omega
  · rw [kpiece_last h hk, tlv_length]; omega
theorem kpre_mono (ds : List (Int × List UInt8)) (k : Nat) (hk : k ≤ ds.length) : (kpre ds k).length ≤ (kflat ds).length := by
  obtain ⟨r, hr⟩ := kpre_prefix ds k (ds.length - k)
  rw [kflat, show ds.length = k + (ds.length - k) by omega, hr]
  simp

set_option maxRecDepth 20000 in
set_option maxHeartbeats 1600000 in
theorem specparams_any (v : Value) (ps : List Pm) (w : World) (h : Rd w 2 ps.length v (pms .i64 ps)) (ha : PAll ps w) (hl : ps.length ≤ 1000) (hr : ∀ p ∈ ps, Fit p) (hf : (kflat (ps.map Pm.c)).length ≤ 60000) :
    Calls Tryd.prog 20 #[v] w (RetSl w (kflat (ps.map Pm.c))) := by
  obtain ⟨n, hn⟩ : ∃ n, n = ps.length := ⟨_, rfl⟩
  rw [← hn] at h hl
  obtain ⟨A, c, rfl, hnc, hcm, hl0, h0, hc⟩ := h
  have HC := Lib.hid hc
  have Hn := Lib.hid hn
  have HR := Lib.hid hr
  have HA := Lib.hid ha
  have Hf := Lib.hid hf
  clear hc h0 hl0 hr hn ha hf
  unfold maxLen at hcm
  go_enter Tryd.func20, Tryd.ntmps20
  go_wp2
  go_loopw [3, 10] (fun v i wr => ∃ k : Nat, k ≤ n ∧ i = .int .i64 k ∧ Hid (wr.ownsRow w.heap.size 5 1 v (kpre (ps.map Pm.c) k).length (bvs (kpre (ps.map Pm.c) k))) ∧ Hid (Below w.heap.size w wr)) (fun _ i _ => n - (intOf i).toNat)
  case atStart => exact ⟨0, Nat.zero_le _, rfl, Lib.hid (World.ownsRow_made w #[] 0 (Nat.le_refl _) (Nat.zero_le _) rfl), Lib.hid ((Below.refl _ _).alloc (Nat.le_refl _) _)⟩
  case round =>
    obtain ⟨k, hk, rfl, HO, HB⟩ := hrel
    by_cases hlt : k < n
    · obtain ⟨g, o, rfl, hg⟩ := HC.out (by omega)
      have hlk : k < ps.length := by have := Hn.out; omega
      have hx : ps[k]? = some ps[k] := List.getElem?_eq_getElem hlk
      obtain ⟨ha, hb2, hlen⟩ := HR.out _ (List.getElem_mem hlk)
      have hs := HA.out _ (List.getElem_mem hlk)
      generalize ps[k] = x at hx ha hb2 hs hlen
      obtain ⟨hc1, hc2⟩ := pm_cells hg HB.out hx
      have hsr := hs.below HB.out
      have Hx := Lib.hid (show (ps.map Pm.c)[k]? = some x.c by simp [hx])
      obtain ⟨tx, sx, lx⟩ := x
      simp only at ha hb2 hc1 hc2 hlen hs hsr
      have hs' := hsr
      obtain ⟨As, cs, rfl, _⟩ := hs'
      obtain ⟨nx, hnx⟩ : ∃ nx, nx = lx.length := ⟨_, rfl⟩
      rw [← hnx] at hc2 hsr hlen
      have Hnx := Lib.hid hnx
      have Hsr := Lib.hid hsr
      clear hx hg hs hsr hnx
      go_upto_region 5 with fail
      have hG := Row.new wr 35 #[.int .i64 tx, .slice As nx cs]
      have hSa := Hsr.out.alloc (.cells #[.int .i64 tx, .slice As nx cs] 35)
      have hBa := HB.out.alloc HB.out.size (.cells #[.int .i64 tx, .slice As nx cs] 35)
      have hOa := HO.out.alloc (.cells #[.int .i64 tx, .slice As nx cs] 35)
      generalize wr.alloc (.cells #[.int .i64 tx, .slice As nx cs] 35) = W at hG hSa hBa hOa ⊢
      generalize wr.heap.size = gp at hG ⊢
      have HG := Lib.hid hG
      have HSa := Lib.hid hSa
      have HBa := Lib.hid hBa
      have HOa := Lib.hid hOa
      have hk2 : W.drew.cell? ⟨gp, 0, none⟩ = some (.int .i64 tx) ∧ W.drew.cell? ⟨gp, 1, none⟩ = some (.slice As nx cs) := Row.two (w := W.drew) hG
      obtain ⟨mx, hmx⟩ : ∃ mx, mx = 4 + nx := ⟨_, rfl⟩
      have hwx : IntKind.i64.wrap (4 + (nx : Int)) = (mx : Int) := by simp [IntKind.wrap, IntKind.bits, IntKind.signed]; omega
      have hmx1 : mx ≤ 65535 := by omega
      have Hmx := Lib.hid hmx
      clear hG hSa hBa hc1 hc2 hOa HO HB hmx
      go_region_held3 (fun w' => w'.cell? ⟨gp, 0, none⟩ = some (.int .i64 tx) ∧ w'.cell? ⟨gp, 1, none⟩ = some (.slice As nx cs)) (first | (with_reducible exact hk2) | (with_reducible exact kk1) | (with_reducible exact kk2) | (with_reducible exact kk5) | exact Row.two (Row.alloc G2.out _))
        (first
          | (go_at_call_of 19 (Value.int IntKind.i64 tx); refine (number_any tx 2 _ ha (by omega) (by omega) (by omega)).mono ?_; rintro z w1 ⟨A1, n1, c1, rfl, hs1, hb1⟩; have Q1 := Lib.hid hs1; have B1 := Lib.hid hb1; have g1 := HG.out.drew.below hb1 HG.out.drew.lt; have G1 := Lib.hid g1; have kk1 := g1.two; clear g1 hs1 hb1)
          | (go_at_call_of 19 (Value.int IntKind.i64 (mx : Int)); refine (number_any (mx : Int) 2 _ (by omega) (by omega) (by omega) (by omega)).mono ?_; rintro z w2 ⟨A2, n2, c2, rfl, hs2, hb2⟩; have Q2 := Lib.hid hs2; have B2 := Lib.hid hb2; have g2 := G1.out.below hb2 G1.out.lt; have G2 := Lib.hid g2; have kk2 := g2.two; clear g2 hs2 hb2)
          | (go_at_call 18; refine (joined_any _ [.slice A1 n1 c1, .slice A2 n2 c2, .slice As nx cs] [be (Int.toNat 2) tx.toNat, be (Int.toNat 2) (mx : Int).toNat, lx] _ (Rd.lit w2 27 [.slice A1 n1 c1, .slice A2 n2 c2, .slice As nx cs] 3 rfl (by omega)) (.cons ((Q1.out.below B2.out).alloc _) (.cons (Q2.out.alloc _) (.cons (((HSa.out.drew.below B1.out).below B2.out).alloc _) (Sls.nil _)))) (by have := Hnx.out; simp [be_length]; omega) (by simp)).mono ?_; rintro z w6 ⟨A6, n6, c6, rfl, hs6, hb6⟩; have Q6 := Lib.hid hs6; have B6 := Lib.hid hb6; have g6 := (G2.out.alloc _).below hb6 (G2.out.alloc _).lt; have kk5 := g6.two; clear g6 hs6 hb6))
      have e0 : [be (Int.toNat 2) tx.toNat, be (Int.toNat 2) (mx : Int).toNat, lx].flatten = tlv tx.toNat lx := by
        rw [show (mx : Int).toNat = 4 + lx.length by have := Hnx.out; have := Hmx.out; omega]
        simp [tlv]
      have S6 := Q6.out
      rw [e0] at S6
      have hn6 := S6.len
      rw [tlv_length] at hn6
      have HS6 := Lib.hid S6
      have d0 := HBa.out.drew
      have d1 := below_step d0 d0.size B1.out
      have d2 := below_step d1 d1.size B2.out
      have d3 := d2.alloc d2.size (.cells [.slice A1 n1 c1, .slice A2 n2 c2, .slice As nx cs].toArray 27)
      have D6 := Lib.hid (below_step d3 d3.size B6.out)
      have o1 := own_below HOa.out.drew B1.out
      have o2 := own_below o1 B2.out
      have o3 := o2.alloc (.cells [.slice A1 n1 c1, .slice A2 n2 c2, .slice As nx cs].toArray 27)
      have O6 := Lib.hid (own_below o3 B6.out)
      have hm1 := kpre_mono (ps.map Pm.c) (k + 1) (by simp; omega)
      rw [kpre, List.length_append] at hm1
      have Hm1 := Lib.hid hm1
      have Hlx : Hid (lx.length ≤ 65531) := by show _ ≤ _; have := Hnx.out; omega
      have hw : IntKind.i64.wrap ((n : Int) - 1) = (n : Int) - 1 := by simp [IntKind.wrap, IntKind.bits, IntKind.signed]; omega
      clear hk2 kk1 kk2 kk5 d0 d1 d2 d3 e0 S6 ha hb2 o1 o2 o3 hn6 hm1
      by_cases hmid : (k : Int) < (n : Int) - 1
      · have HP : Hid (kpiece (ps.map Pm.c) k = padded (tlv tx.toNat lx)) := Lib.hid (kpiece_mid Hx.out (by simp; have := Hn.out; omega))
        go_wp2_with fail
        refine (padded_any _ _ _ HS6.out (by rw [tlv_length]; have := Hlx.out; omega)).mono ?_
        rintro e w7 ⟨A7, n7, c7, rfl, hs7, hb7⟩
        rw [← HP.out] at hs7
        have HS7 := Lib.hid hs7
        have D7 := Lib.hid (below_step D6.out D6.out.size hb7)
        have O7 := Lib.hid (own_below O6.out hb7)
        clear hs7 hb7
        go_wp2_with (at_builtin; refine wpList_append_rd _ rfl _ _ rfl bT w.heap.size u3 _ _ rfl O7.out (.slice A7 n7 c7) (kpiece (ps.map Pm.c) k).length (bvs (kpiece (ps.map Pm.c) k)) rfl HS7.out (bvs_one _) ?c1 ?c2 D7.out.size ?_)
        case c1 => have := Hm1.out; have := Hf.out; unfold maxLen; omega
        case c2 => have := Hm1.out; have := Hf.out; omega
        intro v8 w8 hown hg8 _
        have O8 : Hid (w8.ownsRow w.heap.size 5 1 v8 (kpre (ps.map Pm.c) (k + 1)).length (bvs (kpre (ps.map Pm.c) (k + 1)))) := Lib.hid (by rw [kpre, bvs_append, List.length_append]; exact hown)
        have D8 := Lib.hid (D7.out.grown hg8 D7.out.size (fun j hj => (O7.out.lt j hj).1))
        clear hown hg8
        go_wp2
        go_roundw
        case rel => exact ⟨k + 1, by omega, by go_num, O8, D8⟩
        case measure => simp [intOf]; omega
      · have HP : Hid (kpiece (ps.map Pm.c) k = tlv tx.toNat lx) := Lib.hid (kpiece_last Hx.out (by simp; have := Hn.out; omega))
        have HS7 := HS6
        rw [← HP.out] at HS7
        go_wp2_with (at_builtin; refine wpList_append_rd _ rfl _ _ rfl bT w.heap.size u3 _ _ rfl O6.out (.slice A6 n6 c6) (kpiece (ps.map Pm.c) k).length (bvs (kpiece (ps.map Pm.c) k)) rfl HS7.out (bvs_one _) ?c1 ?c2 D6.out.size ?_)
        case c1 => have := Hm1.out; have := Hf.out; unfold maxLen; omega
        case c2 => have := Hm1.out; have := Hf.out; omega
        intro v8 w8 hown hg8 _
        have O8 : Hid (w8.ownsRow w.heap.size 5 1 v8 (kpre (ps.map Pm.c) (k + 1)).length (bvs (kpre (ps.map Pm.c) (k + 1)))) := Lib.hid (by rw [kpre, bvs_append, List.length_append]; exact hown)
        have D8 := Lib.hid (D6.out.grown hg8 D6.out.size (fun j hj => (O6.out.lt j hj).1))
        clear hown hg8
        go_wp2
        go_roundw
        case rel => exact ⟨k + 1, by omega, by go_num, O8, D8⟩
        case measure => simp [intOf]; omega
    · obtain rfl : k = n := by omega
      have hO := HO.out
      rw [show kpre (ps.map Pm.c) k = kflat (ps.map Pm.c) by rw [kflat, List.length_map, Hn.out]] at hO
      have HS := Lib.hid (Sl.of_own hO)
      have HBB := HB
      clear hO HO
      go_wp2
      go_ret
      exact RetSl.mk HS.out HBB.out
end Go.Proofs.YtokkhfjlbnochaaDoor
