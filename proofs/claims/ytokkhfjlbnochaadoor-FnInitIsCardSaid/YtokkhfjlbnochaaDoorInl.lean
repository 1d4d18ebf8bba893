/- Contracts of InitText and InitOf. Conditions: kinds of parameters, the last has a value, bounds on numbers and lengths. -/
import Derived.Test.YtokkhfjlbnochaaDoorInw
namespace Go.Proofs.YtokkhfjlbnochaaDoor
open Go.RowKit Go.Lib

theorem Row.set7 {w : World} {g : Nat} {t : TypeId} {y0 y1 y2 y3 y4 y5 y6 : Value} (r : Row w g t [y0, y1, y2, y3, y4, y5, y6]) (x0 x1 x2 x3 x4 x5 x6 : Value) : Row (World.setCell (World.setCell (World.setCell (World.setCell (World.setCell (World.setCell (World.setCell w ⟨g, 0, none⟩ x0) ⟨g, 1, none⟩ x1) ⟨g, 2, none⟩ x2) ⟨g, 3, none⟩ x3) ⟨g, 4, none⟩ x4) ⟨g, 5, none⟩ x5) ⟨g, 6, none⟩ x6) g t [x0, x1, x2, x3, x4, x5, x6] :=
  ((((((r.set 0 x0).set 1 x1).set 2 x2).set 3 x3).set 4 x4).set 5 x5).set 6 x6
theorem only_set7 (w : World) (g : Nat) (x0 x1 x2 x3 x4 x5 x6 : Value) : w.grownBy (World.setCell (World.setCell (World.setCell (World.setCell (World.setCell (World.setCell (World.setCell w ⟨g, 0, none⟩ x0) ⟨g, 1, none⟩ x1) ⟨g, 2, none⟩ x2) ⟨g, 3, none⟩ x3) ⟨g, 4, none⟩ x4) ⟨g, 5, none⟩ x5) ⟨g, 6, none⟩ x6) (some g) :=
  only_set (only_set (only_set (only_set (only_set (only_set (only_set (only_refl _ _) 0 _) 1 _) 2 _) 3 _) 4 _) 5 _) 6 _
theorem Row.far7 {w : World} {g h : Nat} {t : TypeId} {xs : List Value} (r : Row w h t xs) (hne : h ≠ g) (x0 x1 x2 x3 x4 x5 x6 : Value) : Row (World.setCell (World.setCell (World.setCell (World.setCell (World.setCell (World.setCell (World.setCell w ⟨g, 0, none⟩ x0) ⟨g, 1, none⟩ x1) ⟨g, 2, none⟩ x2) ⟨g, 3, none⟩ x3) ⟨g, 4, none⟩ x4) ⟨g, 5, none⟩ x5) ⟨g, 6, none⟩ x6) h t xs :=
  r.grown (only_set7 w g x0 x1 x2 x3 x4 x5 x6) (by intro e; injection e with e; exact hne e)
theorem Row.cold7 {w : World} {g : Nat} {t : TypeId} {xs : List Value} (r : Row w g t xs) : w.frozen? ⟨g, 0, none⟩ = false ∧ w.frozen? ⟨g, 1, none⟩ = false ∧ w.frozen? ⟨g, 2, none⟩ = false ∧ w.frozen? ⟨g, 3, none⟩ = false ∧ w.frozen? ⟨g, 4, none⟩ = false ∧ w.frozen? ⟨g, 5, none⟩ = false ∧ w.frozen? ⟨g, 6, none⟩ = false :=
  ⟨r.frozen 0, r.frozen 1, r.frozen 2, r.frozen 3, r.frozen 4, r.frozen 5, r.frozen 6⟩

/-- Parameters with the same types and values. -/
theorem con_mem {qs ps : List Pm} (h : qs.map Pm.c = ps.map Pm.c) {p : Pm} (hp : p ∈ qs) : ∃ x ∈ ps, x.ty = p.ty ∧ x.l = p.l := by
  have h1 : p.c ∈ ps.map Pm.c := by rw [← h]; exact List.mem_map_of_mem hp
  obtain ⟨x, hx, e⟩ := List.mem_map.1 h1
  exact ⟨x, hx, congrArg Prod.fst e, congrArg Prod.snd e⟩

theorem okK_lt {ty : Nat} {l : List UInt8} (h : OkK ty l) : ty ≤ 65535 ∧ l.length ≤ 65531 := by
  obtain ⟨h1 | ⟨h1, _⟩, h2⟩ := h <;> exact ⟨by omega, h2⟩

theorem ii_info : (Tryd.prog.info? 25).map (·.size) = some 7 := by kernel_rfl

set_option maxRecDepth 20000 in
set_option maxHeartbeats 1600000 in
theorem inittext_any (ack : Bool) (tag win out inn tsn : Nat) (A : Option Addr) (n c : Nat) (ps : List Pm) (w : World) (h : Rd w 2 n (.slice A n c) (pms .i64 ps)) (hn : n = ps.length) (ha : PAll ps w) (hq : IGood tag win out inn tsn ps) (ty0 : Nat) (hty0 : ty0 = if ack then 2 else 1) :
    Calls Tryd.prog 6 #[.agg #[.bool ack, .int .u32 (tag : Int), .int .u32 (win : Int), .int .i64 (out : Int), .int .i64 (inn : Int), .int .u32 (tsn : Int), .slice A n c]] w (RetSlB w (chunk ty0 0 (ihead tag win out inn tsn ++ kflat (ps.map Pm.c)))) := by
  have hg := Row.new w 25 #[.bool ack, .int .u32 (tag : Int), .int .u32 (win : Int), .int .i64 (out : Int), .int .i64 (inn : Int), .int .u32 (tsn : Int), .slice A n c]
  have hba := (Below.refl w.heap.size w).alloc (Nat.le_refl _) (.cells #[.bool ack, .int .u32 (tag : Int), .int .u32 (win : Int), .int .i64 (out : Int), .int .i64 (inn : Int), .int .u32 (tsn : Int), .slice A n c] 25)
  have hH := h.alloc (.cells #[.bool ack, .int .u32 (tag : Int), .int .u32 (win : Int), .int .i64 (out : Int), .int .i64 (inn : Int), .int .u32 (tsn : Int), .slice A n c] 25)
  have hA := ha.alloc (.cells #[.bool ack, .int .u32 (tag : Int), .int .u32 (win : Int), .int .i64 (out : Int), .int .i64 (inn : Int), .int .u32 (tsn : Int), .slice A n c] 25)
  obtain ⟨b1, b2, b3, b4, b5⟩ := hq.ok
  have hl := hq.few
  have hl2 := hq.len
  have hl3 : n ≤ 20 := by omega
  have Hq := Lib.hid hq
  have Hn := Lib.hid hn
  have Hty0 := Lib.hid hty0
  have Hl2 := Lib.hid hl2
  clear h ha hn hty0 hl2 hl
  go_enter Tryd.func6, Tryd.ntmps6
  go_wp2_with fail
  generalize w.alloc (.cells #[.bool ack, .int .u32 (tag : Int), .int .u32 (win : Int), .int .i64 (out : Int), .int .i64 (inn : Int), .int .u32 (tsn : Int), .slice A n c] 25) = W at hg hba hH hA ⊢
  generalize hGG : w.heap.size = G at hg ⊢
  have HGG := Lib.hid hGG
  have hk := Row.seven (w := W.drew) hg
  have Hg := Lib.hid hg
  have Hba := Lib.hid hba
  have HH := Lib.hid hH
  have HA := Lib.hid hA
  have t1 : IntKind.u16.wrap (out : Int) = (out : Int) := by simp [IntKind.wrap, IntKind.bits, IntKind.signed]; omega
  have t2 : IntKind.u16.wrap (inn : Int) = (inn : Int) := by simp [IntKind.wrap, IntKind.bits, IntKind.signed]; omega
  clear hg hba hGG hH hA
  go_region_held3 (fun w' => w'.cell? ⟨G, 0, none⟩ = some (.bool ack) ∧ w'.cell? ⟨G, 1, none⟩ = some (.int .u32 (tag : Int)) ∧ w'.cell? ⟨G, 2, none⟩ = some (.int .u32 (win : Int)) ∧ w'.cell? ⟨G, 3, none⟩ = some (.int .i64 (out : Int)) ∧ w'.cell? ⟨G, 4, none⟩ = some (.int .i64 (inn : Int)) ∧ w'.cell? ⟨G, 5, none⟩ = some (.int .u32 (tsn : Int)) ∧ w'.cell? ⟨G, 6, none⟩ = some (.slice A n c)) (first | (with_reducible exact hk) | (with_reducible exact k1) | (with_reducible exact k2))
    (first
      | (go_at_call 12; refine (paramsOf_any _ ps _ (by rw [← Hn.out]; exact HH.out.drew) (HA.out.below (w' := W.drew) (below_drewN (Below.refl _ _) 1)) (by have := Hn.out; omega) (fun p hp => by obtain ⟨f1, f2, f3⟩ := Hq.out.fit p hp; exact ⟨f1, f2, by omega⟩)).mono ?_; rintro z w1 ⟨A1, c1, qs, rfl, hcon, hlen, hrd, hall, hb1⟩; rw [← Hn.out] at hrd hlen ⊢; have Hcon := Lib.hid hcon; have Hlen := Lib.hid hlen; have Hrd := Lib.hid hrd; have Hall := Lib.hid hall; have B1 := Lib.hid hb1; have g1 := Hg.out.drew.below hb1 Hg.out.drew.lt; have G1 := Lib.hid g1; have k1 := g1.seven; clear g1 hcon hlen hrd hall hb1)
      | (go_at_call 11; refine (zzinittext_any ack tag win out inn tsn A1 n c1 qs _ Hrd.out Hlen.out.symm Hall.out (fun p hp => by obtain ⟨x, hx, e1, e2⟩ := con_mem Hcon.out hp; obtain ⟨ty, h1, h2⟩ := Hq.out.kinds x hx; exact ⟨ty, by rw [← e1]; exact h1, by rw [← e2]; exact h2⟩) Hq.out.ok (by omega) (by rw [Hcon.out]; exact Hl2.out) ty0 Hty0.out).mono ?_; rintro z w2 ⟨A2, n2, c2, rfl, hs2, hb2⟩; rw [Hcon.out] at hs2; have Hs2 := Lib.hid hs2; have B2 := Lib.hid hb2; have g2 := G1.out.below hb2 G1.out.lt; have k2 := g2.seven; clear g2 hs2 hb2))
  have d0 := Hba.out.drew
  have d1 := below_step d0 d0.size B1.out
  have D2 := Lib.hid (below_step d1 d1.size B2.out)
  clear hk k1 k2 d0 d1 t1 t2
  go_wp2_with fail
  go_region_with ((go_at_call 13; refine (copied_any _ _ _ Hs2.out.drew (by rw [chunk_length, List.length_append, ihead_length]; have := Hl2.out; omega)).mono ?_; rintro e w3 ⟨A3, n3, c3, rfl, hs3, hb3⟩))
  have Hs3 := Lib.hid hs3
  have Hb3 := Lib.hid hb3
  clear hs3 hb3
  go_wp2
  go_ret2
  exact ⟨A3, n3, c3, rfl, Hs3.out, D2.out.drew.trans (Hb3.out.mono D2.out.size)⟩

set_option maxRecDepth 20000 in
set_option maxHeartbeats 3200000 in
theorem initof_any (ack : Bool) (ty0 : Nat) (hty0 : ty0 = if ack then 2 else 1) (v : Value) (tag win out inn tsn : Nat) (dl : List (Int × List UInt8)) (w : World) (hs : Sl w v (chunk ty0 0 (ihead tag win out inn tsn ++ kflat dl))) (hok : IOk tag win out inn tsn) (hl : dl.length ≤ 1000) (hlen : (kflat dl).length ≤ 60000) (hp : ∀ d ∈ dl, ∃ ty : Nat, d.1 = (ty : Int) ∧ OkK ty d.2) (hlast : ∀ d, dl[dl.length - 1]? = some d → 0 < d.2.length) :
    Calls Tryd.prog 7 #[v] w (RetIn w .i64 .i64 (.bool true) ack tag win out inn tsn dl) := by
  have Hs := Lib.hid hs
  have Hok := Lib.hid hok
  have Hl := Lib.hid hl
  have Hlen := Lib.hid hlen
  have HP := Lib.hid hp
  have Hlast := Lib.hid hlast
  have Hty0 := Lib.hid hty0
  clear hs hok hl hlen hp hlast hty0
  go_enter Tryd.func7, Tryd.ntmps7
  go_wp2_with fail
  refine (copied_any _ _ _ (Hs.out.alloc _) (by rw [chunk_length, List.length_append, ihead_length]; have := Hlen.out; omega)).mono ?_
  rintro z w1 ⟨A1, n1, c1, rfl, hs1, hb1⟩
  have hd := Row.new w 25 #[.bool false, .int .u32 0, .int .u32 0, .int .i64 0, .int .i64 0, .int .u32 0, .slice none 0 0]
  have Hd1 := Lib.hid (hd.below hb1 hd.lt)
  have Hs1 := Lib.hid hs1
  have Hb1 := Lib.hid (((Below.refl w.heap.size w).alloc (Nat.le_refl _) (.cells #[.bool false, .int .u32 0, .int .u32 0, .int .i64 0, .int .i64 0, .int .u32 0, .slice none 0 0] 25)).trans (hb1.mono (by simp)))
  clear hs1 hb1 hd
  go_wp2_with fail
  refine (zzinitof_any ack ty0 Hty0.out A1 n1 c1 tag win out inn tsn dl _ Hs1.out Hok.out Hl.out Hlen.out HP.out Hlast.out).mono ?_
  rintro z w2 ⟨A2, c2, qs, rfl, hcon, hql, hrd, hall, hb2⟩
  obtain ⟨q, hq⟩ : ∃ q, q = dl.length := ⟨_, rfl⟩
  rw [← hq] at hrd hql ⊢
  have Hq := Lib.hid hq
  have Hd2 := Lib.hid (Hd1.out.below hb2 Hd1.out.lt)
  have Hcon := Lib.hid hcon
  have Hql := Lib.hid hql
  have Hrd := Lib.hid hrd
  have Hall := Lib.hid hall
  have Hb2 := Lib.hid (Hb1.out.trans (hb2.mono Hb1.out.size))
  clear hcon hql hrd hall hb2 hq
  go_wp2_with fail
  have hg1 := Row.new w2 45 #[.bool ack, .int .u32 (tag : Int), .int .u32 (win : Int), .int .u16 (out : Int), .int .u16 (inn : Int), .int .u32 (tsn : Int), .slice A2 q c2]
  have hd1 := Hd2.out.alloc (.cells #[.bool ack, .int .u32 (tag : Int), .int .u32 (win : Int), .int .u16 (out : Int), .int .u16 (inn : Int), .int .u32 (tsn : Int), .slice A2 q c2] 45)
  have hrW := Hrd.out.alloc (.cells #[.bool ack, .int .u32 (tag : Int), .int .u32 (win : Int), .int .u16 (out : Int), .int .u16 (inn : Int), .int .u32 (tsn : Int), .slice A2 q c2] 45)
  have haW := Hall.out.alloc (.cells #[.bool ack, .int .u32 (tag : Int), .int .u32 (win : Int), .int .u16 (out : Int), .int .u16 (inn : Int), .int .u32 (tsn : Int), .slice A2 q c2] 45)
  have hbW := Hb2.out.alloc Hb2.out.size (.cells #[.bool ack, .int .u32 (tag : Int), .int .u32 (win : Int), .int .u16 (out : Int), .int .u16 (inn : Int), .int .u32 (tsn : Int), .slice A2 q c2] 45)
  have hne : w2.heap.size ≠ w.heap.size := by have := Hd2.out.lt; omega
  generalize w2.alloc (.cells #[.bool ack, .int .u32 (tag : Int), .int .u32 (win : Int), .int .u16 (out : Int), .int .u16 (inn : Int), .int .u32 (tsn : Int), .slice A2 q c2] 45) = W at hg1 hd1 hrW haW hbW ⊢
  generalize w2.heap.size = G at hg1 hne ⊢
  have hk := Row.seven (w := W.drew) hg1
  have Hg1 := Lib.hid hg1
  have Hd := Lib.hid hd1
  have HrW := Lib.hid hrW
  have HaW := Lib.hid haW
  have HbW := Lib.hid hbW
  obtain ⟨b1, b2, b3, b4, b5⟩ := Hok.out
  have t1 : IntKind.i64.wrap (out : Int) = (out : Int) := by simp [IntKind.wrap, IntKind.bits, IntKind.signed]; omega
  have t2 : IntKind.i64.wrap (inn : Int) = (inn : Int) := by simp [IntKind.wrap, IntKind.bits, IntKind.signed]; omega
  have hqb : q ≤ 1000 := by have := Hq.out; have := Hl.out; omega
  clear hg1 hd1 hrW haW hbW Hs Hd1 Hs1 Hb1 Hd2 Hrd Hall Hb2
  go_region_held3 (fun w' => w'.cell? ⟨G, 0, none⟩ = some (.bool ack) ∧ w'.cell? ⟨G, 1, none⟩ = some (.int .u32 (tag : Int)) ∧ w'.cell? ⟨G, 2, none⟩ = some (.int .u32 (win : Int)) ∧ w'.cell? ⟨G, 3, none⟩ = some (.int .u16 (out : Int)) ∧ w'.cell? ⟨G, 4, none⟩ = some (.int .u16 (inn : Int)) ∧ w'.cell? ⟨G, 5, none⟩ = some (.int .u32 (tsn : Int)) ∧ w'.cell? ⟨G, 6, none⟩ = some (.slice A2 q c2)) (first | (with_reducible exact hk) | (with_reducible exact k3) | exact Row.seven (Row.far7 g3 hne _ _ _ _ _ _ _))
    (first | (go_at_call 15; refine (params_anyN _ qs _ (by rw [Hql.out]; exact HrW.out.drew) (HaW.out.below (w' := W.drew) (below_drewN (Below.refl _ _) 1)) (by have := Hql.out; omega) (fun p hp => by have h1 : p.c ∈ dl := (by rw [← Hcon.out]; exact List.mem_map_of_mem hp); obtain ⟨ty, h2, h3⟩ := HP.out _ h1; obtain ⟨h4, h5⟩ := okK_lt h3; simp only [Pm.c] at h2 h5; exact ⟨by omega, by omega, by omega⟩)).mono ?_; rintro z w3 ⟨A3, c3, rs, rfl, hcon3, hlen3, hrd3, hall3, hb3, hfar3⟩; rw [Hql.out] at hrd3 hlen3 hfar3 ⊢; have Hcon3 := Lib.hid hcon3; have Hlen3 := Lib.hid hlen3; have Hrd3 := Lib.hid hrd3; have Hall3 := Lib.hid hall3; have Hb3 := Lib.hid hb3; have Hfar3 := Lib.hid hfar3; have g3 := Hg1.out.drew.below hb3 Hg1.out.lt; have k3 := g3.seven; have r3 := Hd.out.drew.below hb3 Hd.out.lt; have y3 := r3.seven; have z3 := r3.cold7; clear hcon3 hlen3 hrd3 hall3 hb3 hfar3))
  have hR := r3.set7 (.bool ack) (.int .u32 (tag : Int)) (.int .u32 (win : Int)) (.int .i64 (out : Int)) (.int .i64 (inn : Int)) (.int .u32 (tsn : Int)) (.slice A3 q c3)
  have hO := only_set7 w3 w.heap.size (.bool ack) (.int .u32 (tag : Int)) (.int .u32 (win : Int)) (.int .i64 (out : Int)) (.int .i64 (inn : Int)) (.int .u32 (tsn : Int)) (.slice A3 q c3)
  have hrd4 := Hrd3.out.only' hO (fun _ => Hfar3.out w.heap.size (by have := Hd.out.lt; exact this))
  have hall4 : PAll rs _ := fun p hp => (Hall3.out p hp).only' hO ((Hall3.out p hp).apart r3 (by intro x hx b; simp only [List.mem_cons, List.not_mem_nil, or_false] at hx; rcases hx with rfl | rfl | rfl | rfl | rfl | rfl | rfl <;> simp [bv]))
  have hB := below_only (HbW.out.drew.trans (Hb3.out.mono HbW.out.size)) (Nat.le_trans HbW.out.size Hb3.out.size) hO (Nat.le_refl _)
  clear hk k3 y3 z3 r3 g3 hO t1 t2
  generalize (World.setCell (World.setCell (World.setCell (World.setCell (World.setCell (World.setCell (World.setCell w3 ⟨w.heap.size, 0, none⟩ (.bool ack)) ⟨w.heap.size, 1, none⟩ (.int .u32 (tag : Int))) ⟨w.heap.size, 2, none⟩ (.int .u32 (win : Int))) ⟨w.heap.size, 3, none⟩ (.int .i64 (out : Int))) ⟨w.heap.size, 4, none⟩ (.int .i64 (inn : Int))) ⟨w.heap.size, 5, none⟩ (.int .u32 (tsn : Int))) ⟨w.heap.size, 6, none⟩ (.slice A3 q c3)) = W4 at hR hrd4 hall4 hB ⊢
  have HR := Lib.hid hR
  have HRD := Lib.hid hrd4
  have HAL := Lib.hid hall4
  have HB := Lib.hid hB
  clear hR hrd4 hall4 hB
  go_wp2
  refine bodyPost_ret (results_cell_tmp_row rfl _ _ w.heap.size _ _ (0, 0) _ rfl HR.out Tryd.underlying25 rfl ii_info) rfl ?_
  exact ⟨A3, c3, rs, by rw [← Hq.out]; rfl, by rw [Hcon3.out, Hcon.out], by rw [Hlen3.out, Hq.out], by rw [← Hq.out]; exact HRD.out, HAL.out, HB.out⟩
end Go.Proofs.YtokkhfjlbnochaaDoor
