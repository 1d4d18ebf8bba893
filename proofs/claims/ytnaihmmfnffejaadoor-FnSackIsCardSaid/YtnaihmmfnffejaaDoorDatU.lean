/- Contract of the unmarshal of a chunk of user data. Conditions: the numbers fit. -/
import Derived.Test.YtnaihmmfnffejaaDoorDatM
import Derived.Deep.DeepCutAuto
namespace Go.Proofs.YtnaihmmfnffejaaDoor
open Go.RowKit Go.Lib

theorem pay_cold {w : World} {gc : Nat} {t : TypeId} {ty fl raw : Value} {u b e i : Bool} {tsn st sq pr : Int} {v : Value} (h : Row w gc t (pay ty fl raw u b e i tsn st sq pr v)) (k : Nat) : w.frozen? ⟨gc, k, none⟩ = false := h.frozen k

theorem body_drop4 (tsn st sq pr : Nat) (l : List UInt8) : (body tsn st sq pr l).drop 4 = be 2 st ++ (be 2 sq ++ (be 4 pr ++ l)) := by simp [body, be_four]
theorem body_drop6 (tsn st sq pr : Nat) (l : List UInt8) : (body tsn st sq pr l).drop 6 = be 2 sq ++ (be 4 pr ++ l) := by simp [body, be_four, be_two]
theorem body_drop8 (tsn st sq pr : Nat) (l : List UInt8) : (body tsn st sq pr l).drop 8 = be 4 pr ++ l := by simp [body, be_four, be_two]
theorem body_drop12 (tsn st sq pr : Nat) (l : List UInt8) : (body tsn st sq pr l).drop 12 = l := by simp [body, be_four, be_two]

theorem get32_be (A : Option Addr) (n c : Nat) (v : Nat) (r : List UInt8) (w : World) (h : Sl w (.slice A n c) (be 4 v ++ r)) (hv : v < 4294967296) :
    Calls Tryd.prog 80 #[.agg #[], .slice A n c] w fun z w' => z = .returned (.int .u32 v) ∧ Below w.heap.size w w' := by
  rw [be_four] at h
  have hx := ne_be_four v hv
  rw [be_four] at hx
  refine (get32_any A n c _ _ _ _ r w h).mono ?_
  rintro z w' ⟨rfl, hb⟩
  rw [hx]
  exact ⟨rfl, hb⟩
theorem get16_be (A : Option Addr) (n c : Nat) (v : Nat) (r : List UInt8) (w : World) (h : Sl w (.slice A n c) (be 2 v ++ r)) (hv : v < 65536) :
    Calls Tryd.prog 77 #[.agg #[], .slice A n c] w fun z w' => z = .returned (.int .u16 v) ∧ Below w.heap.size w w' := by
  rw [be_two] at h
  have hx := ne_be_two v hv
  rw [be_two] at hx
  refine (get16_any A n c _ _ r w h).mono ?_
  rintro z w' ⟨rfl, hb⟩
  rw [hx]
  exact ⟨rfl, hb⟩
theorem be_mod (k v : Nat) : be k v = be k v := rfl
/-- The rest of a slice from place lo on, its address as the walk reckons it where something is left. -/
theorem Sl.rest {w : World} {g o n c : Nat} {l : List UInt8} (h : Sl w (.slice (some ⟨g, o, none⟩) n c) l) (lo : Nat) (hlo : lo ≤ n) (hc : ¬ c = lo) : Sl w (.slice (some ⟨g, o + lo, none⟩) (n - lo) (c - lo)) (l.drop lo) := by
  have h2 := h.sub lo (n - lo) (by omega)
  rw [if_neg hc, List.take_of_length_le (by have := h.len; simp; omega)] at h2
  exact h2

theorem fl_bits (u b e i : Bool) : (bits BinOp.and IntKind.u8 ((UInt8.ofNat (fl u b e i)).toNat : Int) 8 != 0) = i ∧ (bits BinOp.and IntKind.u8 ((UInt8.ofNat (fl u b e i)).toNat : Int) 4 != 0) = u ∧ (bits BinOp.and IntKind.u8 ((UInt8.ofNat (fl u b e i)).toNat : Int) 2 != 0) = b ∧ (bits BinOp.and IntKind.u8 ((UInt8.ofNat (fl u b e i)).toNat : Int) 1 != 0) = e := by
  cases u <;> cases b <;> cases e <;> cases i <;> exact ⟨rfl, rfl, rfl, rfl⟩

set_option maxRecDepth 20000 in
set_option maxHeartbeats 1600000 in
theorem dtunmarshal (gc : Nat) (t : TypeId) (A : Option Addr) (n c : Nat) (u b e i : Bool) (tsn st sq pr : Nat) (l : List UInt8) (w : World)
    (hr : Row w gc t (pay (.int .u8 0) (.int .u8 0) (.slice none 0 0) false false false false 0 0 0 0 (.slice none 0 0))) (hs : Sl w (.slice A n c) (chunk 0 (fl u b e i) (body tsn st sq pr l))) (hf : Far (.slice A n c) gc)
    (hl : l.length ≤ 4096) (hl0 : 0 < l.length) (h1 : tsn < 4294967296) (h2 : st < 65536) (h3 : sq < 65536) (h4 : pr < 4294967296) :
    Calls Tryd.prog 76 #[.pointer (some ⟨gc, 0, none⟩), .slice A n c] w fun z w' =>
      ∃ ty f raw A2 n2 c2, z = .returned .nilIface ∧ Row w' gc t (pay ty f raw u b e i tsn st sq pr (.slice A2 n2 c2)) ∧ Sl w' (.slice A2 n2 c2) l ∧ w.grownBy w' (some gc) := by
  have e0 : chunk 0 (fl u b e i) (body tsn st sq pr l) = 0 :: UInt8.ofNat (fl u b e i) :: (be 2 (4 + (body tsn st sq pr l).length) ++ (body tsn st sq pr l ++ List.replicate 0 0)) := by simp [chunk]
  rw [e0] at hs
  clear e0
  have Hr := Lib.hid hr
  have Hs := Lib.hid hs
  have Hf := Lib.hid hf
  have Hl := Lib.hid hl
  have Hl0 := Lib.hid hl0
  have H1 := Lib.hid h1
  have H2 := Lib.hid h2
  have H3 := Lib.hid h3
  have H4 := Lib.hid h4
  clear hr hs hf hl hl0 h1 h2 h3 h4
  go_enter Tryd.func76, Tryd.ntmps76
  go_wp2_with fail
  refine (hunmarshal_ok gc t _ _ _ _ A n c 0 _ (body tsn st sq pr l) 0 _ Hr.out Hs.out Hf.out (by rw [body_length]; have := Hl.out; omega) (by omega)).mono ?_
  rintro z w2 ⟨Ar, nr, cr, rfl, hr2, hs2, hf2, hg2⟩
  have hn := hs2.len
  rw [body_length] at hn
  have Hs2 := Lib.hid hs2
  obtain ⟨A', c', hv, hnc, hcm, hl0, h0, hc⟩ := hs2
  injection hv with e1 e2 e3
  subst e1 e3
  obtain ⟨g, o, rfl, _⟩ := hc (by rw [body_length]; omega)
  have hne : ¬ g = gc := fun e => hf2 _ _ _ rfl e
  have hne' : ¬ gc = g := fun e => hne e.symm
  have hcr : nr ≤ cr := by omega
  have n12 : 12 < nr := by have := Hl0.out; omega
  have hgc := hr2.lt
  have Hn := Lib.hid hn
  have Hr2 := Lib.hid hr2
  have Hg2 := Lib.hid hg2
  have y0 : w2.cell? ⟨gc, 0, none⟩ = some (.int .u8 0) := by rw [hr2.cell]; rfl
  obtain ⟨fv, hfv⟩ : ∃ fv : Int, fv = ((UInt8.ofNat (fl u b e i)).toNat : Int) := ⟨_, rfl⟩
  have y1 : w2.cell? ⟨gc, 1, none⟩ = some (.int .u8 fv) := by rw [hr2.cell, hfv]; rfl
  have y2 : w2.cell? ⟨gc, 2, none⟩ = some (.slice (some ⟨g, o, none⟩) nr cr) := by rw [hr2.cell]; rfl
  have y4 : w2.cell? ⟨gc, 4, none⟩ = some (.bool false) := by rw [hr2.cell]; rfl
  have y5 : w2.cell? ⟨gc, 5, none⟩ = some (.bool false) := by rw [hr2.cell]; rfl
  have y6 : w2.cell? ⟨gc, 6, none⟩ = some (.bool false) := by rw [hr2.cell]; rfl
  have y7 : w2.cell? ⟨gc, 7, none⟩ = some (.bool false) := by rw [hr2.cell]; rfl
  have f4 := hr2.frozen 4
  have f5 := hr2.frozen 5
  have f6 := hr2.frozen 6
  have f7 := hr2.frozen 7
  have Hfv := Lib.hid hfv
  have hnr : ¬ (nr : Int) < 12 := by omega
  clear hr2 hf2 hg2 hc h0 hl0 hcm hnc e2 hn hfv
  go_upto_region 13 with fail
  have hall : Hid (Row ((((w2.setCell ⟨gc, 7, none⟩ (.bool (bits BinOp.and IntKind.u8 fv 8 != 0))).setCell ⟨gc, 4, none⟩ (.bool (bits BinOp.and IntKind.u8 fv 4 != 0))).setCell ⟨gc, 5, none⟩ (.bool (bits BinOp.and IntKind.u8 fv 2 != 0))).setCell ⟨gc, 6, none⟩ (.bool (bits BinOp.and IntKind.u8 fv 1 != 0))) gc t (pay (.int .u8 0) (.int .u8 fv) (.slice (some ⟨g, o, none⟩) nr cr) u b e i 0 0 0 0 (.slice none 0 0))) ∧ Hid (Sl ((((w2.setCell ⟨gc, 7, none⟩ (.bool (bits BinOp.and IntKind.u8 fv 8 != 0))).setCell ⟨gc, 4, none⟩ (.bool (bits BinOp.and IntKind.u8 fv 4 != 0))).setCell ⟨gc, 5, none⟩ (.bool (bits BinOp.and IntKind.u8 fv 2 != 0))).setCell ⟨gc, 6, none⟩ (.bool (bits BinOp.and IntKind.u8 fv 1 != 0))) (.slice (some ⟨g, o, none⟩) nr cr) (body tsn st sq pr l)) ∧ Hid (w.grownBy ((((w2.setCell ⟨gc, 7, none⟩ (.bool (bits BinOp.and IntKind.u8 fv 8 != 0))).setCell ⟨gc, 4, none⟩ (.bool (bits BinOp.and IntKind.u8 fv 4 != 0))).setCell ⟨gc, 5, none⟩ (.bool (bits BinOp.and IntKind.u8 fv 2 != 0))).setCell ⟨gc, 6, none⟩ (.bool (bits BinOp.and IntKind.u8 fv 1 != 0))) (some gc)) := by
    obtain ⟨b8, b4, b2, b1⟩ := fl_bits u b e i
    rw [← Hfv.out] at b8 b4 b2 b1
    have hO : w2.grownBy ((((w2.setCell ⟨gc, 7, none⟩ (.bool (bits BinOp.and IntKind.u8 fv 8 != 0))).setCell ⟨gc, 4, none⟩ (.bool (bits BinOp.and IntKind.u8 fv 4 != 0))).setCell ⟨gc, 5, none⟩ (.bool (bits BinOp.and IntKind.u8 fv 2 != 0))).setCell ⟨gc, 6, none⟩ (.bool (bits BinOp.and IntKind.u8 fv 1 != 0))) (some gc) := only_set (only_set (only_set (only_set (only_refl w2 (some gc)) 7 _) 4 _) 5 _) 6 _
    refine ⟨?_, Lib.hid (Hs2.out.only hO (fun A n c e => by cases e; exact hne)), Lib.hid (only_trans Hg2.out hO)⟩
    have hR := (((Hr2.out.set 7 (.bool (bits BinOp.and IntKind.u8 fv 8 != 0))).set 4 (.bool (bits BinOp.and IntKind.u8 fv 4 != 0))).set 5 (.bool (bits BinOp.and IntKind.u8 fv 2 != 0))).set 6 (.bool (bits BinOp.and IntKind.u8 fv 1 != 0))
    rw [b8, b4, b2, b1] at hR ⊢
    rw [Hfv.out]
    exact Lib.hid hR
  generalize ((((w2.setCell ⟨gc, 7, none⟩ (.bool (bits BinOp.and IntKind.u8 fv 8 != 0))).setCell ⟨gc, 4, none⟩ (.bool (bits BinOp.and IntKind.u8 fv 4 != 0))).setCell ⟨gc, 5, none⟩ (.bool (bits BinOp.and IntKind.u8 fv 2 != 0))).setCell ⟨gc, 6, none⟩ (.bool (bits BinOp.and IntKind.u8 fv 1 != 0))) = W at hall ⊢
  obtain ⟨HR, HS, HG⟩ := hall
  clear y0 y1 y2 y4 y5 y6 y7 f4 f5 f6 f7
  have y2 : W.cell? ⟨gc, 2, none⟩ = some (.slice (some ⟨g, o, none⟩) nr cr) := by rw [HR.out.cell]; rfl
  have hc0 : ¬ cr = 0 := by omega
  have hc4 : ¬ cr = 4 := by omega
  have hc6 : ¬ cr = 6 := by omega
  have hc8 : ¬ cr = 8 := by omega
  have hc12 : ¬ cr = 12 := by omega
  have i4 : (4 : Int) ≤ (nr : Int) := by omega
  have i6 : (6 : Int) ≤ (nr : Int) := by omega
  have i8 : (8 : Int) ≤ (nr : Int) := by omega
  have i12 : (12 : Int) ≤ (nr : Int) := by omega
  have hsub : Sl W.drew (.slice (some ⟨g, o, none⟩) nr cr) (be 4 tsn ++ (be 2 st ++ (be 2 sq ++ (be 4 pr ++ l)))) := HS.out
  have Hsub := Lib.hid hsub
  clear hsub
  go_cut [] (fun wx => Hid (Row wx gc t (pay (.int .u8 0) (.int .u8 fv) (.slice (some ⟨g, o, none⟩) nr cr) u b e i (tsn : Int) 0 0 0 (.slice none 0 0))) ∧ Hid (Sl wx (.slice (some ⟨g, o, none⟩) nr cr) (body tsn st sq pr l)) ∧ Hid (w.grownBy wx (some gc)))
  case first =>
    go_region_with ((go_at_call 80; refine (get32_be _ _ _ tsn _ _ Hsub.out H1.out).mono ?_; rintro z w3 ⟨rfl, hb3⟩; have hr3 := HR.out.drew.below hb3 HR.out.lt; have y3 : w3.cell? ⟨gc, 8, none⟩ = some (.int .u32 0) := (by rw [hr3.cell]; rfl); have f3 := hr3.frozen 8))
    all_goals
      go_wp2_with fail
      go_meet
      exact ⟨Lib.hid (hr3.set 8 _), Lib.hid (Sl.only (HS.out.drew.below hb3) (only_set (only_refl _ _) 8 _) (fun A n c e => by cases e; exact hne)), Lib.hid (only_set (only_below (only_drew HG.out) hb3) 8 _)⟩
  case' rest =>
    obtain ⟨HR, HS, HG⟩ := hcut
    have y2 : wc.cell? ⟨gc, 2, none⟩ = some (.slice (some ⟨g, o, none⟩) nr cr) := by rw [HR.out.cell]; rfl
  go_upto_region 14 with fail
  have hsub : Sl wc.drew (.slice (some ⟨g, o + 4, none⟩) (nr - 4) (cr - 4)) _ := (HS.out.rest 4 (by omega) hc4)
  rw [body_drop4] at hsub
  have Hsub := Lib.hid hsub
  clear hsub
  go_cut [] (fun wx => Hid (Row wx gc t (pay (.int .u8 0) (.int .u8 fv) (.slice (some ⟨g, o, none⟩) nr cr) u b e i (tsn : Int) (st : Int) 0 0 (.slice none 0 0))) ∧ Hid (Sl wx (.slice (some ⟨g, o, none⟩) nr cr) (body tsn st sq pr l)) ∧ Hid (w.grownBy wx (some gc)))
  case first =>
    go_region_with ((go_at_call 77; refine (get16_be _ _ _ st _ _ Hsub.out H2.out).mono ?_; rintro z w3 ⟨rfl, hb3⟩; have hr3 := HR.out.drew.below hb3 HR.out.lt; have y3 : w3.cell? ⟨gc, 9, none⟩ = some (.int .u16 0) := (by rw [hr3.cell]; rfl); have f3 := hr3.frozen 9))
    all_goals
      go_wp2_with fail
      go_meet
      exact ⟨Lib.hid (hr3.set 9 _), Lib.hid (Sl.only (HS.out.drew.below hb3) (only_set (only_refl _ _) 9 _) (fun A n c e => by cases e; exact hne)), Lib.hid (only_set (only_below (only_drew HG.out) hb3) 9 _)⟩
  case' rest =>
    obtain ⟨HR, HS, HG⟩ := hcut
    have y2 : wc.cell? ⟨gc, 2, none⟩ = some (.slice (some ⟨g, o, none⟩) nr cr) := by rw [HR.out.cell]; rfl
  go_upto_region 15 with fail
  have hsub : Sl wc.drew (.slice (some ⟨g, o + 6, none⟩) (nr - 6) (cr - 6)) _ := (HS.out.rest 6 (by omega) hc6)
  rw [body_drop6] at hsub
  have Hsub := Lib.hid hsub
  clear hsub
  go_cut [] (fun wx => Hid (Row wx gc t (pay (.int .u8 0) (.int .u8 fv) (.slice (some ⟨g, o, none⟩) nr cr) u b e i (tsn : Int) (st : Int) (sq : Int) 0 (.slice none 0 0))) ∧ Hid (Sl wx (.slice (some ⟨g, o, none⟩) nr cr) (body tsn st sq pr l)) ∧ Hid (w.grownBy wx (some gc)))
  case first =>
    go_region_with ((go_at_call 77; refine (get16_be _ _ _ sq _ _ Hsub.out H3.out).mono ?_; rintro z w3 ⟨rfl, hb3⟩; have hr3 := HR.out.drew.below hb3 HR.out.lt; have y3 : w3.cell? ⟨gc, 10, none⟩ = some (.int .u16 0) := (by rw [hr3.cell]; rfl); have f3 := hr3.frozen 10))
    all_goals
      go_wp2_with fail
      go_meet
      exact ⟨Lib.hid (hr3.set 10 _), Lib.hid (Sl.only (HS.out.drew.below hb3) (only_set (only_refl _ _) 10 _) (fun A n c e => by cases e; exact hne)), Lib.hid (only_set (only_below (only_drew HG.out) hb3) 10 _)⟩
  case' rest =>
    obtain ⟨HR, HS, HG⟩ := hcut
    have y2 : wc.cell? ⟨gc, 2, none⟩ = some (.slice (some ⟨g, o, none⟩) nr cr) := by rw [HR.out.cell]; rfl
  go_upto_region 16 with fail
  have hsub : Sl wc.drew (.slice (some ⟨g, o + 8, none⟩) (nr - 8) (cr - 8)) _ := (HS.out.rest 8 (by omega) hc8)
  rw [body_drop8] at hsub
  have Hsub := Lib.hid hsub
  clear hsub
  go_cut [] (fun wx => Hid (Row wx gc t (pay (.int .u8 0) (.int .u8 fv) (.slice (some ⟨g, o, none⟩) nr cr) u b e i (tsn : Int) (st : Int) (sq : Int) (pr : Int) (.slice none 0 0))) ∧ Hid (Sl wx (.slice (some ⟨g, o, none⟩) nr cr) (body tsn st sq pr l)) ∧ Hid (w.grownBy wx (some gc)))
  case first =>
    go_region_with ((go_at_call 80; refine (get32_be _ _ _ pr _ _ Hsub.out H4.out).mono ?_; rintro z w3 ⟨rfl, hb3⟩; have hr3 := HR.out.drew.below hb3 HR.out.lt; have y3 : w3.cell? ⟨gc, 13, none⟩ = some (.int .u32 0) := (by rw [hr3.cell]; rfl); have f3 := hr3.frozen 13))
    all_goals
      go_wp2_with fail
      go_meet
      exact ⟨Lib.hid (hr3.set 13 _), Lib.hid (Sl.only (HS.out.drew.below hb3) (only_set (only_refl _ _) 13 _) (fun A n c e => by cases e; exact hne)), Lib.hid (only_set (only_below (only_drew HG.out) hb3) 13 _)⟩
  case' rest =>
    obtain ⟨HR, HS, HG⟩ := hcut
    have y2 : wc.cell? ⟨gc, 2, none⟩ = some (.slice (some ⟨g, o, none⟩) nr cr) := by rw [HR.out.cell]; rfl
  have y14 : wc.cell? ⟨gc, 14, none⟩ = some (.slice none 0 0) := by rw [HR.out.cell]; rfl
  have y15 : wc.cell? ⟨gc, 15, none⟩ = some (.bool false) := by rw [HR.out.cell]; rfl
  have f14 := HR.out.frozen 14
  have f15 := HR.out.frozen 15
  go_wp2
  go_ret
  refine ⟨_, _, _, _, _, _, rfl, (HR.out.set 14 _).set 15 _, ?_, only_set (only_set HG.out 14 _) 15 _⟩
  have h := HS.out.rest 12 (by omega) hc12
  rw [body_drop12] at h
  exact h.only (only_set (only_set (only_refl _ _) 14 _) 15 _) (fun A n c e => by cases e; exact hne)
end Go.Proofs.YtnaihmmfnffejaaDoor
