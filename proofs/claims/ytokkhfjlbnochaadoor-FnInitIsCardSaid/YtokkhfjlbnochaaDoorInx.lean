/- Contract of ZZInitText. Conditions: kinds of parameters, bounds on numbers and lengths. -/
import Derived.Test.YtokkhfjlbnochaaDoorInt
namespace Go.Proofs.YtokkhfjlbnochaaDoor
open Go.RowKit Go.Lib

/-- The numbers of INIT fit. -/
def IOk (tag win out inn tsn : Nat) : Prop := tag ≤ 4294967295 ∧ win ≤ 4294967295 ∧ out ≤ 65535 ∧ inn ≤ 65535 ∧ tsn ≤ 4294967295

set_option maxRecDepth 20000 in
set_option maxHeartbeats 1600000 in
theorem zzinittext_any (ack : Bool) (tag win out inn tsn : Nat) (A : Option Addr) (n c : Nat) (ps : List Pm) (w : World) (h : Rd w 2 n (.slice A n c) (pms .u16 ps)) (hn : n = ps.length) (ha : PAll ps w) (hr : ∀ p ∈ ps, ∃ ty : Nat, p.ty = (ty : Int) ∧ OkK ty p.l) (hok : IOk tag win out inn tsn) (hl : n ≤ 1000) (hf : (kflat (ps.map Pm.c)).length ≤ 60000) (ty0 : Nat) (hty0 : ty0 = if ack then 2 else 1) :
    Calls Tryd.prog 11 #[.agg #[.bool ack, .int .u32 tag, .int .u32 win, .int .u16 out, .int .u16 inn, .int .u32 tsn, .slice A n c]] w (RetSlE w (chunk ty0 0 (ihead tag win out inn tsn ++ kflat (ps.map Pm.c)))) := by
  have Hn := Lib.hid hn
  have HA := Lib.hid ha
  have HR := Lib.hid hr
  have Hf := Lib.hid hf
  have Hok := Lib.hid hok
  have Hty0 := Lib.hid hty0
  obtain ⟨A', c', hv, hnc, hcm, hl0, h0, hc⟩ := h
  injection hv with e1 e2 e3
  subst e1 e3
  have HC := Lib.hid hc
  clear hn ha hr hf hl0 h0 hc e2 hok hty0
  unfold maxLen at hcm
  go_enter Tryd.func11, Tryd.ntmps11
  go_wp2_with fail
  go_loopw [23] (fun i wr => ∃ (k : Nat) (cs : List Kp) (va : Value), k ≤ n ∧ i = .int .i64 k ∧ Hid (cs.map Kp.d = (ps.map Pm.c).take k) ∧ Hid (cs.length = k) ∧ Hid (KB (w.heap.size + 2) (w.heap.size + 1) 59 [.int .u32 tag, .int .u32 win, .int .u16 out, .int .u16 inn, .int .u32 tsn] [.slice none 0 0] cs ((w.alloc (.cells #[.bool ack, .int .u32 tag, .int .u32 win, .int .u16 out, .int .u16 inn, .int .u32 tsn, .slice A n c] 45)).alloc (.cells #[.int .u32 tag, .int .u32 win, .int .u16 out, .int .u16 inn, .int .u32 tsn, .slice none 0 0, .slice none 0 0] 59)) wr va)) (fun i _ => n - (intOf i).toNat)
  case atStart => exact ⟨0, [], .slice none 0 0, Nat.zero_le _, rfl, Lib.hid rfl, Lib.hid rfl, Lib.hid ⟨Row.new' _ _ _ (by simp), World.ownsRow_nil _ _ _ _, fun _ h => by simp at h, fun _ h => by simp at h, only_refl _ _, by simp, by omega⟩⟩
  case round =>
    obtain ⟨k, cs, va, hk, rfl, Hcs, Hlen, HI⟩ := hrel
    have hz0 := HI.out.size
    have Hw := Lib.hid (show Below w.heap.size w wr from (((Below.refl w.heap.size w).alloc (Nat.le_refl _) _).alloc (by simp) _).trans ⟨HI.out.bel.os, HI.out.bel.tape, HI.out.bel.output, HI.out.bel.size, fun i hi => HI.out.bel.block i (by simp; omega) (by intro e; injection e with e; omega)⟩)
    by_cases hlt : k < n
    · obtain ⟨g, o, rfl, hg⟩ := HC.out (by omega)
      have hlk : k < ps.length := by have := Hn.out; omega
      have hx : ps[k]? = some ps[k] := List.getElem?_eq_getElem hlk
      obtain ⟨ty, hty, hokk⟩ := HR.out _ (List.getElem_mem hlk)
      have hs := HA.out _ (List.getElem_mem hlk)
      generalize ps[k] = x at hx hty hokk hs
      obtain ⟨hc1, hc2⟩ := pm_cells hg Hw.out hx
      have hsr := hs.below Hw.out
      have Hx := Lib.hid (show (ps.map Pm.c)[k]? = some x.c by simp [hx])
      obtain ⟨tx, sx, lx⟩ := x
      simp only at hty hc1 hc2 hokk hs hsr
      subst hty
      have hs' := hsr
      obtain ⟨As, csx, rfl, _⟩ := hs'
      obtain ⟨nx, hnx⟩ : ∃ nx, nx = lx.length := ⟨_, rfl⟩
      rw [← hnx] at hc2 hsr
      have Hnx := Lib.hid hnx
      have Hsr := Lib.hid hsr
      have Hokk := Lib.hid hokk
      clear hx hg hs hsr hnx hokk
      go_wp2_with fail
      have hN1 : Below wr.heap.size wr (wr.alloc (.cells #[.int .u16 (ty : Int), .slice As nx csx] 61)) := (Below.refl _ _).alloc (Nat.le_refl _) _
      have hz1 : (wr.alloc (.cells #[.int .u16 (ty : Int), .slice As nx csx] 61)).heap.size = wr.heap.size + 1 := by simp
      generalize wr.alloc (.cells #[.int .u16 (ty : Int), .slice As nx csx] 61) = W at hN1 hz1 ⊢
      refine (zzparam_any ty As nx csx lx W Hokk.out (Hsr.out.below hN1)).mono ?_
      rintro e w3 ⟨g3, s3, x0, x1, x2, A3, n3, c3, rfl, hR3, hS3, hF3, hFS, hg3, hB3⟩
      have hN3 : Below wr.heap.size wr w3 := hN1.trans (hB3.mono (by omega))
      have HI3 := Lib.hid (HI.out.below hN3)
      have hg3' : wr.heap.size ≤ g3 := by omega
      have HR3 := Lib.hid hR3
      have HS3 := Lib.hid hS3
      have HF3 := Lib.hid (fun (hp : 0 < lx.length) g (hg : g < wr.heap.size) => hF3 hp g (by omega))
      have HFS := Lib.hid hFS
      have HN3 := Lib.hid hN3
      have y3 : w3.cell? ⟨w.heap.size + 1, 5, none⟩ = some va := by rw [HI3.out.row.cell]; rfl
      have y3' : (w3.alloc (.cells #[.iface (kT ty) (.pointer (some ⟨g3, 0, none⟩))] 63)).cell? ⟨w.heap.size + 1, 5, none⟩ = some va := by rw [(HI3.out.row.alloc _).cell]; rfl
      have hO3 := HI3.out.own
      rw [Hlen.out] at hO3
      have HO3 := Lib.hid hO3
      have hU3 : w.heap.size + 2 ≤ w3.heap.size := HI3.out.size
      clear hR3 hS3 hF3 hN3 hB3 hFS hO3 hg3 hN1 hc1 hc2 hz1
      generalize hT : kT ty = T at y3' ⊢
      have HT := Lib.hid hT
      clear hT
      go_wp2_with (at_builtin; refine wpList_append_rd _ rfl _ _ rfl pmT (w.heap.size + 2) va k _ rfl (HO3.out.alloc _) _ 1 [_] rfl (Rd.lit w3 63 [.iface T (.pointer (some ⟨g3, 0, none⟩))] 1 rfl (by omega)) ?c1 ?c2 ?c3 ?c4 ?_)
      case c1 => simp [Value.oneCell']
      case c2 => unfold maxLen; omega
      case c3 => omega
      case c4 => simp; omega
      intro v5 w5 hown5 hg5 hat5
      obtain ⟨A5, c5, e5⟩ := own_slice hown5
      subst e5
      have hr5 := (HI3.out.row.alloc (.cells #[.iface T (.pointer (some ⟨g3, 0, none⟩))] 63)).grown hg5 (fun e => by have := (HI3.out.own.lt _ e.symm).1; omega)
      have y5 : w5.cell? ⟨w.heap.size + 1, 5, none⟩ = some va := by rw [hr5.cell]; rfl
      have f5 := hr5.frozen 5
      have hI5 := HI.out.step (c := ⟨g3, ty, s3, lx⟩) (i := 5) (v5 := .slice A5 (k + 1) c5) (o := .cells #[.iface T (.pointer (some ⟨g3, 0, none⟩))] 63) rfl HN3.out ⟨_, _, _, _, _, _, HR3.out, HS3.out⟩ hg3' Hokk.out (fun hp => ⟨HF3.out hp _ (by omega), fun j hj => HF3.out hp _ (HI.out.own.lt j hj).2, fun d hd => HF3.out hp _ (HI.out.all d hd).lt, HFS.out hp⟩) (by simp) (by rw [Hlen.out]; unfold Kp.v; rw [HT.out]; exact hown5) hg5 (by simpa using hat5)
      have HI5 := Lib.hid hI5
      have Hcs5 : Hid ((cs ++ [(⟨g3, ty, s3, lx⟩ : Kp)]).map Kp.d = (ps.map Pm.c).take (k + 1)) := Lib.hid (by rw [List.map_append, Hcs.out, List.take_add_one, Hx.out]; rfl)
      have Hlen5 : Hid ((cs ++ [(⟨g3, ty, s3, lx⟩ : Kp)]).length = k + 1) := Lib.hid (by simp [Hlen.out])
      clear hI5 hown5 hg5 hat5 hr5 y3 y3'
      go_wp2
      go_roundw
      case rel => exact ⟨k + 1, _, _, by omega, by go_num, Hcs5, Hlen5, HI5⟩
      case measure => simp [intOf]; omega
    · obtain rfl : k = n := by omega
      have hcs := Hcs.out
      rw [List.take_of_length_le (by simp; have := Hn.out; omega)] at hcs
      have hlen := Hlen.out
      have hO := HI.out.own
      obtain ⟨Av, cv, hv⟩ := own_slice hO
      subst hv
      rw [hlen] at hO
      have HO2 := Lib.hid (Rd.of_own hO)
      have Hcf : Hid (ds cs = ps.map Pm.c) := Lib.hid hcs
      have hS2 := HI.out.side (g2 := wr.heap.size) (m := wr.heap.size + 1) (Nat.le_refl _) (by omega)
      have HS2 := Lib.hid hS2
      have Hlie := Lib.hid (fun c hc => (HI.out.lies c hc).2.2.1)
      have hb0 := ((Row.new w 45 #[.bool ack, .int .u32 tag, .int .u32 win, .int .u16 out, .int .u16 inn, .int .u32 tsn, .slice A k c]).alloc (.cells #[.int .u32 tag, .int .u32 win, .int .u16 out, .int .u16 inn, .int .u32 tsn, .slice none 0 0, .slice none 0 0] 59)).grown HI.out.bel (by intro e; injection e with e; omega)
      have hb : wr.cell? ⟨w.heap.size, 0, none⟩ = some (.bool ack) := by rw [hb0.cell]; rfl
      clear hb0
      have Hrow := Lib.hid HI.out.row
      have q0 : wr.cell? ⟨w.heap.size + 1, 0, none⟩ = some (.int .u32 tag) := by rw [HI.out.row.cell]; rfl
      have q1 : wr.cell? ⟨w.heap.size + 1, 1, none⟩ = some (.int .u32 win) := by rw [HI.out.row.cell]; rfl
      have q2 : wr.cell? ⟨w.heap.size + 1, 2, none⟩ = some (.int .u16 out) := by rw [HI.out.row.cell]; rfl
      have q3 : wr.cell? ⟨w.heap.size + 1, 3, none⟩ = some (.int .u16 inn) := by rw [HI.out.row.cell]; rfl
      have q4 : wr.cell? ⟨w.heap.size + 1, 4, none⟩ = some (.int .u32 tsn) := by rw [HI.out.row.cell]; rfl
      have q5 : wr.cell? ⟨w.heap.size + 1, 5, none⟩ = some (.slice Av cs.length cv) := by rw [HI.out.row.cell]; rfl
      have q6 : wr.cell? ⟨w.heap.size + 1, 6, none⟩ = some (.slice none 0 0) := by rw [HI.out.row.cell]; rfl
      clear hcs hO hS2
      subst hlen
      cases ack with
      | false =>
        go_wp2_with fail
        have hz : (wr.alloc (.cells #[.int .u8 0, .int .u8 0, .slice none 0 0, .int .u32 tag, .int .u32 win, .int .u16 out, .int .u16 inn, .int .u32 tsn, .slice Av cs.length cv, .slice none 0 0] 74)).heap.size = wr.heap.size + 1 := by simp
        have hR := Row.new wr 74 #[.int .u8 0, .int .u8 0, .slice none 0 0, .int .u32 tag, .int .u32 win, .int .u16 out, .int .u16 inn, .int .u32 tsn, .slice Av cs.length cv, .slice none 0 0]
        have hb1 := (Below.refl wr.heap.size wr).alloc (Nat.le_refl _) (.cells #[.int .u8 0, .int .u8 0, .slice none 0 0, .int .u32 tag, .int .u32 win, .int .u16 out, .int .u16 inn, .int .u32 tsn, .slice Av cs.length cv, .slice none 0 0] 74)
        generalize wr.alloc (.cells #[.int .u8 0, .int .u8 0, .slice none 0 0, .int .u32 tag, .int .u32 win, .int .u16 out, .int .u16 inn, .int .u32 tsn, .slice Av cs.length cv, .slice none 0 0] 74) = W at hz hR hb1 ⊢
        refine (inmarshal w.heap.size wr.heap.size _ tag win out inn tsn _ Av _ cv cs W hR (HO2.out.below hb1) rfl (HI.out.all.below hb1) (by rw [hz]; exact HS2.out) (fun c hc => by have := Hlie.out c hc; omega) (by omega) Hok.out.1 Hok.out.2.1 Hok.out.2.2.1 Hok.out.2.2.2.1 Hok.out.2.2.2.2 (by rw [Hcf.out]; exact Hf.out) hl).mono ?_
        rintro e w7 ⟨A7, n7, c7, rfl, hs7, hb7⟩
        rw [Hcf.out] at hs7
        have Hs7 := Lib.hid hs7
        have Hb7 := Lib.hid ((below_step Hw.out Hw.out.size hb1).trans hb7)
        clear hs7 hb7 hz hR hb1 hb q0 q1 q2 q3 q4 q5 q6
        go_wp2
        go_ret2
        exact ⟨A7, n7, c7, rfl, by rw [Hty0.out]; exact Hs7.out, Hb7.out⟩
      | true =>
        go_wp2_with fail
        have hz : (wr.alloc (.cells #[.int .u8 0, .int .u8 0, .slice none 0 0, .int .u32 tag, .int .u32 win, .int .u16 out, .int .u16 inn, .int .u32 tsn, .slice Av cs.length cv, .slice none 0 0] 71)).heap.size = wr.heap.size + 1 := by simp
        have hR := Row.new wr 71 #[.int .u8 0, .int .u8 0, .slice none 0 0, .int .u32 tag, .int .u32 win, .int .u16 out, .int .u16 inn, .int .u32 tsn, .slice Av cs.length cv, .slice none 0 0]
        have hb1 := (Below.refl wr.heap.size wr).alloc (Nat.le_refl _) (.cells #[.int .u8 0, .int .u8 0, .slice none 0 0, .int .u32 tag, .int .u32 win, .int .u16 out, .int .u16 inn, .int .u32 tsn, .slice Av cs.length cv, .slice none 0 0] 71)
        generalize wr.alloc (.cells #[.int .u8 0, .int .u8 0, .slice none 0 0, .int .u32 tag, .int .u32 win, .int .u16 out, .int .u16 inn, .int .u32 tsn, .slice Av cs.length cv, .slice none 0 0] 71) = W at hz hR hb1 ⊢
        refine (iamarshal w.heap.size wr.heap.size _ tag win out inn tsn _ Av _ cv cs W hR (HO2.out.below hb1) rfl (HI.out.all.below hb1) (by rw [hz]; exact HS2.out) (fun c hc => by have := Hlie.out c hc; omega) (by omega) Hok.out.1 Hok.out.2.1 Hok.out.2.2.1 Hok.out.2.2.2.1 Hok.out.2.2.2.2 (by rw [Hcf.out]; exact Hf.out) hl).mono ?_
        rintro e w7 ⟨A7, n7, c7, rfl, hs7, hb7⟩
        rw [Hcf.out] at hs7
        have Hs7 := Lib.hid hs7
        have Hb7 := Lib.hid ((below_step Hw.out Hw.out.size hb1).trans hb7)
        clear hs7 hb7 hz hR hb1 hb q0 q1 q2 q3 q4 q5 q6
        go_wp2
        go_ret2
        exact ⟨A7, n7, c7, rfl, by rw [Hty0.out]; exact Hs7.out, Hb7.out⟩
end Go.Proofs.YtokkhfjlbnochaaDoor
