/- Contracts of copied, same and dataOf. Conditions: bounds on lengths; the numbers fit. -/
import Derived.Test.YtnlkmcbhhljajaaDoorRaO
namespace Go.Proofs.YtnlkmcbhhljajaaDoor
open Go.RowKit Go.Lib

theorem bT : ElT Tryd.prog 26 5 (.int .u8 0) 1 1 := ⟨Tryd.underlying26, by kernel_rfl, rfl, by decide⟩
/-- A call that returns bytes, in new memory or old, and changes nothing that was there. -/
def RetSl (w : World) (l : List UInt8) (e : Ending) (w' : World) : Prop := ∃ A n c, e = .returned (.slice A n c) ∧ Sl w' (.slice A n c) l ∧ Below w.heap.size w w' ∧ ∀ a, A = some a → w.heap.size ≤ a.block
theorem RetSl.mk {w w' : World} {l : List UInt8} {v : Value} (h : Sl w' v l) (hb : Below w.heap.size w w') (hn : ∀ a n c, v = .slice (some a) n c → w.heap.size ≤ a.block) : RetSl w l (.returned v) w' := by
  obtain ⟨A, c, rfl, h'⟩ := h
  exact ⟨A, _, c, rfl, ⟨A, c, rfl, h'⟩, hb, fun a e => hn a _ c (by rw [e])⟩
theorem Sl.len {w : World} {A : Option Addr} {n c : Nat} {l : List UInt8} (h : Sl w (.slice A n c) l) : n = l.length := by
  obtain ⟨A', c', hv, _⟩ := h
  injection hv
theorem copied_any (v : Value) (l : List UInt8) (w : World) (h : Sl w v l) (hl : l.length ≤ 1000000000) :
    Calls Tryd.prog 11 #[v] w (RetSl w l) := by
  go_enter Tryd.func11, Tryd.ntmps11
  go_wp2_with (at_builtin; refine wpList_append_rd _ rfl _ _ rfl bT w.heap.size (.slice none 0 0) 0 [] rfl (World.ownsRow_nil _ _ _ _) v l.length (bvs l) rfl h (bvs_one l) (by unfold maxLen; omega) (by omega) (Nat.le_refl _) ?_)
  intro v1 w1 hown hg hat
  go_wp2
  go_ret
  exact RetSl.mk (Sl.of_own (by simpa using hown)) ((Below.refl _ _).grown hg (Nat.le_refl _) (by simp [Value.ownBlock])) (fun a n c e => by
    rcases hown.2 with ⟨e1, _⟩ | ⟨g, cap, cur, e1, hb, _⟩
    · rw [e1] at e
      cases e
    · rw [e1] at e
      injection e with e
      injection e with e
      subst e
      exact hb)
theorem same_any (v1 v2 : Value) (l1 l2 : List UInt8) (w : World) (h1 : Sl w v1 l1) (h2 : Sl w v2 l2) :
    Calls Tryd.prog 8 #[v1, v2] w fun e w' => e = .returned (.bool (decide (l1 = l2))) ∧ w = w' := by
  have c1 := run_conv_sl (P := Tryd.prog) w Tryd.underlying26 Tryd.underlying5 Tryd.underlying9 h1
  have c2 := run_conv_sl (P := Tryd.prog) w Tryd.underlying26 Tryd.underlying5 Tryd.underlying9 h2
  go_enter Tryd.func8, Tryd.ntmps8
  go_wp2
  go_ret
  exact ⟨ret_bool (by rw [Bool.eq_iff_iff]; simp), rfl⟩
theorem Row.nine {w : World} {g : Nat} {t : TypeId} {a0 a1 a2 a3 a4 a5 a6 a7 a8 : Value} (h : Row w g t [a0, a1, a2, a3, a4, a5, a6, a7, a8]) :
    w.cell? ⟨g, 0, none⟩ = some a0 ∧ w.cell? ⟨g, 1, none⟩ = some a1 ∧ w.cell? ⟨g, 2, none⟩ = some a2 ∧ w.cell? ⟨g, 3, none⟩ = some a3 ∧ w.cell? ⟨g, 4, none⟩ = some a4 ∧ w.cell? ⟨g, 5, none⟩ = some a5 ∧ w.cell? ⟨g, 6, none⟩ = some a6 ∧ w.cell? ⟨g, 7, none⟩ = some a7 ∧ w.cell? ⟨g, 8, none⟩ = some a8 := by
  simp only [h.cell]
  exact ⟨rfl, rfl, rfl, rfl, rfl, rfl, rfl, rfl, rfl⟩
theorem Row.cold {w : World} {g : Nat} {t : TypeId} {a0 a1 a2 a3 a4 a5 a6 a7 a8 : Value} (h : Row w g t [a0, a1, a2, a3, a4, a5, a6, a7, a8]) :
    w.frozen? ⟨g, 0, none⟩ = false ∧ w.frozen? ⟨g, 1, none⟩ = false ∧ w.frozen? ⟨g, 2, none⟩ = false ∧ w.frozen? ⟨g, 3, none⟩ = false ∧ w.frozen? ⟨g, 4, none⟩ = false ∧ w.frozen? ⟨g, 5, none⟩ = false ∧ w.frozen? ⟨g, 6, none⟩ = false ∧ w.frozen? ⟨g, 7, none⟩ = false ∧ w.frozen? ⟨g, 8, none⟩ = false :=
  ⟨h.frozen 0, h.frozen 1, h.frozen 2, h.frozen 3, h.frozen 4, h.frozen 5, h.frozen 6, h.frozen 7, h.frozen 8⟩
theorem Sl.apart {w : World} {v : Value} {l : List UInt8} {g : Nat} {t : TypeId} {xs : List Value} (h : Sl w v l) (hr : Row w g t xs) (hx : ∀ x ∈ xs, ∀ b, x ≠ bv b) : 0 < l.length → Far v g := by
  intro hp A n c hv
  obtain ⟨A', c', hv', hnc, hcm, hl0, h0, hc⟩ := h
  rw [hv] at hv'
  injection hv' with e1 e2 e3
  subst e1
  obtain ⟨g', o, hA, hg⟩ := hc (by omega)
  injection hA with hA
  subst hA
  intro e
  simp only at e
  subst e
  have h1 := hg 0 _ (bvs_get l 0 hp)
  rw [Nat.add_zero, hr.cell] at h1
  exact hx _ (List.mem_of_getElem? h1) _ rfl
theorem Row.set9 {w : World} {g : Nat} {t : TypeId} {b0 b1 b2 b3 b4 b5 b6 b7 b8 : Value} (h : Row w g t [b0, b1, b2, b3, b4, b5, b6, b7, b8]) (a0 a1 a2 a3 a4 a5 a6 a7 a8 : Value) : Row (World.setCell (World.setCell (World.setCell (World.setCell (World.setCell (World.setCell (World.setCell (World.setCell (World.setCell w ⟨g, 0, none⟩ a0) ⟨g, 1, none⟩ a1) ⟨g, 2, none⟩ a2) ⟨g, 3, none⟩ a3) ⟨g, 4, none⟩ a4) ⟨g, 5, none⟩ a5) ⟨g, 6, none⟩ a6) ⟨g, 7, none⟩ a7) ⟨g, 8, none⟩ a8) g t [a0, a1, a2, a3, a4, a5, a6, a7, a8] := (Row.set (Row.set (Row.set (Row.set (Row.set (Row.set (Row.set (Row.set (Row.set h 0 a0) 1 a1) 2 a2) 3 a3) 4 a4) 5 a5) 6 a6) 7 a7) 8 a8)
theorem Row.far9 {w : World} {g g' : Nat} {t : TypeId} {xs : List Value} (h : Row w g t xs) (hne : g ≠ g') (a0 a1 a2 a3 a4 a5 a6 a7 a8 : Value) : Row (World.setCell (World.setCell (World.setCell (World.setCell (World.setCell (World.setCell (World.setCell (World.setCell (World.setCell w ⟨g', 0, none⟩ a0) ⟨g', 1, none⟩ a1) ⟨g', 2, none⟩ a2) ⟨g', 3, none⟩ a3) ⟨g', 4, none⟩ a4) ⟨g', 5, none⟩ a5) ⟨g', 6, none⟩ a6) ⟨g', 7, none⟩ a7) ⟨g', 8, none⟩ a8) g t xs := (Row.far (Row.far (Row.far (Row.far (Row.far (Row.far (Row.far (Row.far (Row.far h (p := ⟨g', 0, none⟩) hne a0) (p := ⟨g', 1, none⟩) hne a1) (p := ⟨g', 2, none⟩) hne a2) (p := ⟨g', 3, none⟩) hne a3) (p := ⟨g', 4, none⟩) hne a4) (p := ⟨g', 5, none⟩) hne a5) (p := ⟨g', 6, none⟩) hne a6) (p := ⟨g', 7, none⟩) hne a7) (p := ⟨g', 8, none⟩) hne a8)
theorem only_set9 (w : World) (g : Nat) (a0 a1 a2 a3 a4 a5 a6 a7 a8 : Value) : w.grownBy (World.setCell (World.setCell (World.setCell (World.setCell (World.setCell (World.setCell (World.setCell (World.setCell (World.setCell w ⟨g, 0, none⟩ a0) ⟨g, 1, none⟩ a1) ⟨g, 2, none⟩ a2) ⟨g, 3, none⟩ a3) ⟨g, 4, none⟩ a4) ⟨g, 5, none⟩ a5) ⟨g, 6, none⟩ a6) ⟨g, 7, none⟩ a7) ⟨g, 8, none⟩ a8) (some g) := (only_set (only_set (only_set (only_set (only_set (only_set (only_set (only_set (only_set (only_refl w (some g)) 0 a0) 1 a1) 2 a2) 3 a3) 4 a4) 5 a5) 6 a6) 7 a7) 8 a8)
theorem Sl.only' {w w' : World} {v : Value} {l : List UInt8} {g : Nat} (h : Sl w v l) (hg : w.grownBy w' (some g)) (hf : 0 < l.length → Far v g) : Sl w' v l := Rd.only' h hg fun hp => hf (by simpa using hp)
theorem zz_info : (Tryd.prog.info? 39).map (·.size) = some 9 := by kernel_rfl
set_option maxRecDepth 20000 in
theorem dataOf_any (u b e i : Bool) (tsn st sq pr : Int) (A : Option Addr) (n c : Nat) (l : List UInt8) (w : World) (hs : Sl w (.slice A n c) l) (hl : l.length ≤ 4096) (h1 : 0 ≤ st) (h2 : st ≤ 65535) (h3 : 0 ≤ sq) (h4 : sq ≤ 65535) :
    Calls Tryd.prog 9 #[.agg #[.bool u, .bool b, .bool e, .bool i, .int .u32 tsn, .int .i64 st, .int .i64 sq, .int .u32 pr, .slice A n c]] w fun z w' =>
      ∃ A2 n2 c2, z = .returned (.agg #[.bool u, .bool b, .bool e, .bool i, .int .u32 tsn, .int .u16 st, .int .u16 sq, .int .u32 pr, .slice A2 n2 c2]) ∧ Sl w' (.slice A2 n2 c2) l ∧ Below w.heap.size w w' ∧ ∀ a, A2 = some a → w.heap.size ≤ a.block := by
  have Hs := Lib.hid hs
  clear hs
  go_enter Tryd.func9, Tryd.ntmps9
  go_wp2_with fail
  have hg1 : Row ((w.alloc (.cells #[.bool u, .bool b, .bool e, .bool i, .int .u32 tsn, .int .i64 st, .int .i64 sq, .int .u32 pr, .slice A n c] 36)).alloc (.cells #[.bool false, .bool false, .bool false, .bool false, .int .u32 0, .int .u16 0, .int .u16 0, .int .u32 0, .slice none 0 0] 39)) w.heap.size 36 [.bool u, .bool b, .bool e, .bool i, .int .u32 tsn, .int .i64 st, .int .i64 sq, .int .u32 pr, .slice A n c] := (Row.new w _ _).alloc _
  have hg2 : Row ((w.alloc (.cells #[.bool u, .bool b, .bool e, .bool i, .int .u32 tsn, .int .i64 st, .int .i64 sq, .int .u32 pr, .slice A n c] 36)).alloc (.cells #[.bool false, .bool false, .bool false, .bool false, .int .u32 0, .int .u16 0, .int .u16 0, .int .u32 0, .slice none 0 0] 39)) (w.heap.size + 1) 39 [.bool false, .bool false, .bool false, .bool false, .int .u32 0, .int .u16 0, .int .u16 0, .int .u32 0, .slice none 0 0] := by
    have := Row.new (w.alloc (.cells #[.bool u, .bool b, .bool e, .bool i, .int .u32 tsn, .int .i64 st, .int .i64 sq, .int .u32 pr, .slice A n c] 36)) 39 #[.bool false, .bool false, .bool false, .bool false, .int .u32 0, .int .u16 0, .int .u16 0, .int .u32 0, .slice none 0 0]
    simpa using this
  have hsW := (Hs.out.alloc (.cells #[.bool u, .bool b, .bool e, .bool i, .int .u32 tsn, .int .i64 st, .int .i64 sq, .int .u32 pr, .slice A n c] 36)).alloc (.cells #[.bool false, .bool false, .bool false, .bool false, .int .u32 0, .int .u16 0, .int .u16 0, .int .u32 0, .slice none 0 0] 39)
  have hbW := ((Below.refl w.heap.size w).alloc (Nat.le_refl _) (.cells #[.bool u, .bool b, .bool e, .bool i, .int .u32 tsn, .int .i64 st, .int .i64 sq, .int .u32 pr, .slice A n c] 36)).alloc (by simp) (.cells #[.bool false, .bool false, .bool false, .bool false, .int .u32 0, .int .u16 0, .int .u16 0, .int .u32 0, .slice none 0 0] 39)
  generalize (w.alloc (.cells #[.bool u, .bool b, .bool e, .bool i, .int .u32 tsn, .int .i64 st, .int .i64 sq, .int .u32 pr, .slice A n c] 36)).alloc (.cells #[.bool false, .bool false, .bool false, .bool false, .int .u32 0, .int .u16 0, .int .u16 0, .int .u32 0, .slice none 0 0] 39) = W at hg1 hg2 hsW hbW ⊢
  have hk := Row.nine (w := W.drew) hg1
  have hne : w.heap.size ≠ w.heap.size + 1 := by omega
  have Hg1 := Lib.hid hg1
  have Hg2 := Lib.hid hg2
  have HsW := Lib.hid hsW
  have HbW := Lib.hid hbW
  have hst : IntKind.u16.wrap st = st := by simp [IntKind.wrap, IntKind.bits, IntKind.signed]; omega
  have hsq : IntKind.u16.wrap sq = sq := by simp [IntKind.wrap, IntKind.bits, IntKind.signed]; omega
  clear hg1 hg2 hsW hbW
  go_region_held3 (fun w' => w'.cell? ⟨w.heap.size, 0, none⟩ = some (.bool u) ∧ w'.cell? ⟨w.heap.size, 1, none⟩ = some (.bool b) ∧ w'.cell? ⟨w.heap.size, 2, none⟩ = some (.bool e) ∧ w'.cell? ⟨w.heap.size, 3, none⟩ = some (.bool i) ∧ w'.cell? ⟨w.heap.size, 4, none⟩ = some (.int .u32 tsn) ∧ w'.cell? ⟨w.heap.size, 5, none⟩ = some (.int .i64 st) ∧ w'.cell? ⟨w.heap.size, 6, none⟩ = some (.int .i64 sq) ∧ w'.cell? ⟨w.heap.size, 7, none⟩ = some (.int .u32 pr) ∧ w'.cell? ⟨w.heap.size, 8, none⟩ = some (.slice A n c)) (first | (with_reducible exact hk) | (with_reducible exact hk3) | exact Row.nine (Row.far9 hg3 hne _ _ _ _ _ _ _ _ _))
    (first | (go_at_call 11; refine (copied_any _ _ _ HsW.out.drew (by omega)).mono ?_; rintro z w3 ⟨A3, n3, c3, rfl, hs3, hb3, hn3⟩; have Hn3 := Lib.hid hn3; have Hs3 := Lib.hid hs3; have Hb3 := Lib.hid hb3; have hg3 := Hg1.out.drew.below hb3 (by have := Hg2.out.lt; simp; omega); have hk3 := hg3.nine; have hr3 := Hg2.out.drew.below hb3 Hg2.out.lt; have hy3 := hr3.nine; have hz3 := hr3.cold; clear hs3 hb3 hn3))
  have hf3 := (Hs3.out.apart hr3 (by intro x hx b; simp only [List.mem_cons, List.not_mem_nil, or_false] at hx; rcases hx with rfl | rfl | rfl | rfl | rfl | rfl | rfl | rfl | rfl <;> simp [bv]))
  have hR := hr3.set9 (.bool u) (.bool b) (.bool e) (.bool i) (.int .u32 tsn) (.int .u16 st) (.int .u16 sq) (.int .u32 pr) (.slice A3 n3 c3)
  have hO := only_set9 w3 (w.heap.size + 1) (.bool u) (.bool b) (.bool e) (.bool i) (.int .u32 tsn) (.int .u16 st) (.int .u16 sq) (.int .u32 pr) (.slice A3 n3 c3)
  have hS := Hs3.out.only' hO hf3
  have hB := below_only (HbW.out.drew.trans (Hb3.out.mono HbW.out.size)) (Nat.le_trans HbW.out.size Hb3.out.size) hO (Nat.le_succ _)
  clear hk hk3 hy3 hz3 hr3 hg3 hf3 hO
  generalize (World.setCell (World.setCell (World.setCell (World.setCell (World.setCell (World.setCell (World.setCell (World.setCell (World.setCell w3 ⟨w.heap.size + 1, 0, none⟩ (.bool u)) ⟨w.heap.size + 1, 1, none⟩ (.bool b)) ⟨w.heap.size + 1, 2, none⟩ (.bool e)) ⟨w.heap.size + 1, 3, none⟩ (.bool i)) ⟨w.heap.size + 1, 4, none⟩ (.int .u32 tsn)) ⟨w.heap.size + 1, 5, none⟩ (.int .u16 st)) ⟨w.heap.size + 1, 6, none⟩ (.int .u16 sq)) ⟨w.heap.size + 1, 7, none⟩ (.int .u32 pr)) ⟨w.heap.size + 1, 8, none⟩ (.slice A3 n3 c3)) = W4 at hR hS hB ⊢
  have HR := Lib.hid hR
  have HS := Lib.hid hS
  have HB := Lib.hid hB
  clear hR hS hB
  go_wp2
  refine bodyPost_ret (results_cell_row rfl _ _ (w.heap.size + 1) _ _ (0, 0) _ rfl HR.out Tryd.underlying39 rfl zz_info) rfl ?_
  exact ⟨A3, n3, c3, rfl, HS.out, HB.out, fun a e => Nat.le_trans HbW.out.size (Hn3.out a e)⟩
end Go.Proofs.YtnlkmcbhhljajaaDoor
