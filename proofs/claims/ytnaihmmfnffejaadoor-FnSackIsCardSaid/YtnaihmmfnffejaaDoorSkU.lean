/- Contract of the unmarshal of SACK. Conditions: the numbers fit; at most 1000 gaps and 1000 numbers that came twice. -/
import Derived.Test.YtnaihmmfnffejaaDoorSkT
import Derived.Test.YtnaihmmfnffejaaDoorFwU
namespace Go.Proofs.YtnaihmmfnffejaaDoor
open Go.RowKit Go.Lib

theorem prs_set (K : IntKind) (g : List (Int × Int)) (k : Nat) (p : Int × Int) (h : k < g.length) : ((prs K g).set (k * 2) (.int K p.1)).set (k * 2 + 1) (.int K p.2) = prs K (g.set k p) := by
  induction g generalizing k with
  | nil => simp at h
  | cons a g ih =>
    have e : ∀ a g, prs K (a :: g) = .int K a.1 :: .int K a.2 :: prs K g := fun a g => rfl
    cases k with
    | zero => rw [List.set_cons_zero, e, e]; rfl
    | succ k =>
      rw [List.set_cons_succ, e, e, ← ih k (by simpa using h), show (k + 1) * 2 = k * 2 + 1 + 1 by omega, show k * 2 + 1 + 1 + 1 = (k * 2 + 1) + 1 + 1 by omega]
      rfl
theorem take_set_snoc {α : Type} (g g' : List α) (k : Nat) (p : α) (h : g'.take k = g.take k) (hp : g[k]? = some p) (hk : k < g'.length) : (g'.set k p).take (k + 1) = g.take (k + 1) := by
  apply List.ext_getElem?
  intro i
  rw [List.getElem?_take, List.getElem?_take]
  by_cases hi : i < k + 1
  · rw [if_pos hi, if_pos hi, List.getElem?_set]
    by_cases e : k = i
    · subst e; rw [if_pos rfl, if_pos hk, hp]
    · rw [if_neg e]
      have h1 := congrArg (fun l => l[i]?) h
      simp only [List.getElem?_take] at h1
      rw [if_pos (by omega), if_pos (by omega)] at h1
      exact h1
  · rw [if_neg hi, if_neg hi]
theorem prs_zero (n : Nat) : prs .u16 (List.replicate n (0, 0)) = List.replicate (n * 2) (.int .u16 0) := by
  induction n with
  | zero => rfl
  | succ n ih =>
    rw [List.replicate_succ, show (n + 1) * 2 = n * 2 + 1 + 1 by omega, List.replicate_succ, List.replicate_succ, ← ih]
    rfl
theorem made_const (z : Array Value) (v : Value) (n : Nat) (hz : 0 < z.size) (h : ∀ i, i < z.size → z[i]! = v) : (madeCells z n).toList = List.replicate n v := by
  apply List.ext_getElem
  · simp [madeCells]
  · intro i h1 h2
    simp only [madeCells, Array.getElem_toList, Array.getElem_map, Array.getElem_range, List.getElem_replicate]
    exact h _ (Nat.mod_lt _ hz)
theorem made_gaps (n : Nat) : (madeCells #[Value.int .u16 0, .int .u16 0] (n * 2)).toList = prs .u16 (List.replicate n (0, 0)) := by
  rw [prs_zero]
  refine made_const _ _ _ (by simp) (fun i hi => ?_)
  have : i = 0 ∨ i = 1 := by simp at hi; omega
  rcases this with rfl | rfl <;> rfl
theorem made_twice (n : Nat) : (madeCells #[Value.int .u32 0] n).toList = u32s (List.replicate n 0) := by
  rw [made_const _ (.int .u32 0) _ (by simp) (fun i hi => by have : i = 0 := (by simp at hi; omega); subst this; rfl)]
  simp [u32s]
theorem make_gaps (n : Nat) (hn : n ≤ 1000) (w : World) : (Instr.makeSlice 123 (.int .u16 (n : Int)) (.int .u16 (n : Int))).run Tryd.prog w = .ok (.slice (some ⟨w.heap.size, 0, none⟩) n n) (w.alloc (.cells (madeCells #[Value.int .u16 0, .int .u16 0] (n * 2)) 128)) := by
  obtain ⟨ht, hinfo, _, _⟩ := gT
  obtain ⟨i, hi, hz, hsize, hby⟩ := info_parts hinfo
  have h := run_make (P := Tryd.prog) w _ _ i _ ht hi hz .u16 .u16 n n (by omega) (Int.le_refl _) (by rw [hby]; omega) (by omega)
  rw [hsize, Int.toNat_natCast] at h
  exact h
theorem make_twice (n : Nat) (hn : n ≤ 1000) (w : World) : (Instr.makeSlice 42 (.int .u16 (n : Int)) (.int .u16 (n : Int))).run Tryd.prog w = .ok (.slice (some ⟨w.heap.size, 0, none⟩) n n) (w.alloc (.cells (madeCells #[Value.int .u32 0] n) 35)) := by
  obtain ⟨ht, hinfo, _, _⟩ := uT
  obtain ⟨i, hi, hz, hsize, hby⟩ := info_parts hinfo
  have h := run_make (P := Tryd.prog) w _ _ i _ ht hi hz .u16 .u16 n n (by omega) (Int.le_refl _) (by rw [hby]; omega) (by omega)
  rw [hsize, Int.toNat_natCast, Nat.mul_one] at h
  exact h

theorem skbody_drop4 (tsn win : Nat) (g : List (Int × Int)) (l : List Int) : (skbody tsn win g l).drop 4 = be 4 win ++ (be 2 g.length ++ (be 2 l.length ++ (sbytes g ++ dbytes l))) := by simp [skbody, skhead, be_four]
theorem skbody_drop8 (tsn win : Nat) (g : List (Int × Int)) (l : List Int) : (skbody tsn win g l).drop 8 = be 2 g.length ++ (be 2 l.length ++ (sbytes g ++ dbytes l)) := by simp [skbody, skhead, be_four]
theorem skbody_drop10 (tsn win : Nat) (g : List (Int × Int)) (l : List Int) : (skbody tsn win g l).drop 10 = be 2 l.length ++ (sbytes g ++ dbytes l) := by simp [skbody, skhead, be_four, be_two]
theorem skbody_gap (tsn win : Nat) (g : List (Int × Int)) (l : List Int) (k : Nat) (p : Int × Int) (h : g[k]? = some p) : (skbody tsn win g l).drop (12 + 4 * k) = be 2 p.1.toNat ++ (be 2 p.2.toNat ++ (sbytes (g.drop (k + 1)) ++ dbytes l)) := by
  have hk : k < g.length := (List.getElem?_eq_some_iff.1 h).1
  have hd : g.drop k = p :: g.drop (k + 1) := by
    rw [List.drop_eq_getElem_cons hk]
    congr 1
    exact (List.getElem?_eq_some_iff.1 h).2
  have e : skbody tsn win g l = (skhead tsn win g.length l.length ++ sbytes (g.take k)) ++ (sbytes (g.drop k) ++ dbytes l) := by
    unfold skbody
    have : sbytes g = sbytes (g.take k) ++ sbytes (g.drop k) := by unfold sbytes; rw [← List.flatMap_append, List.take_append_drop]
    rw [this]
    simp only [List.append_assoc]
  have hl : (skhead tsn win g.length l.length ++ sbytes (g.take k)).length = 12 + 4 * k := by rw [List.length_append, skhead_length, sbytes_length, List.length_take, Nat.min_eq_left (by omega)]
  rw [e, ← hl, List.drop_left, hd]
  simp [sbytes]
theorem skbody_gap2 (tsn win : Nat) (g : List (Int × Int)) (l : List Int) (k : Nat) (p : Int × Int) (h : g[k]? = some p) : (skbody tsn win g l).drop (12 + 4 * k + 2) = be 2 p.2.toNat ++ (sbytes (g.drop (k + 1)) ++ dbytes l) := by
  rw [← List.drop_drop, skbody_gap tsn win g l k p h]
  simp [be_two]
theorem skbody_dup (tsn win : Nat) (g : List (Int × Int)) (l : List Int) (j : Nat) (z : Int) (h : l[j]? = some z) : (skbody tsn win g l).drop (12 + 4 * g.length + 4 * j) = be 4 z.toNat ++ dbytes (l.drop (j + 1)) := by
  have hk : j < l.length := (List.getElem?_eq_some_iff.1 h).1
  have hd : l.drop j = z :: l.drop (j + 1) := by
    rw [List.drop_eq_getElem_cons hk]
    congr 1
    exact (List.getElem?_eq_some_iff.1 h).2
  have e : skbody tsn win g l = (skhead tsn win g.length l.length ++ (sbytes g ++ dbytes (l.take j))) ++ dbytes (l.drop j) := by
    unfold skbody
    have : dbytes l = dbytes (l.take j) ++ dbytes (l.drop j) := by unfold dbytes; rw [← List.flatMap_append, List.take_append_drop]
    rw [this]
    simp only [List.append_assoc]
  have hl : (skhead tsn win g.length l.length ++ (sbytes g ++ dbytes (l.take j))).length = 12 + 4 * g.length + 4 * j := by rw [List.length_append, List.length_append, skhead_length, sbytes_length, dbytes_length, List.length_take, Nat.min_eq_left (by omega)]; omega
  rw [e, ← hl, List.drop_left, hd]
  simp [dbytes]

theorem Sl.farOf {w : World} {g0 o n c : Nat} {l : List UInt8} (h : Sl w (.slice (some ⟨g0, o, none⟩) n c) l) (hp : 0 < l.length) {g : Nat} (hg : w.heap.size ≤ g) {o' n' c' : Nat} : Far (.slice (some ⟨g0, o', none⟩) n' c') g := by
  intro A m d hv
  injection hv with e
  injection e with e
  subst e
  have hh := h.far hp hg ⟨g0, o, none⟩ n c rfl
  exact hh

def SkRead (w : World) (gc : Nat) (t : TypeId) (tsn win : Nat) (g : List (Int × Int)) (l : List Int) (e : Ending) (w' : World) : Prop :=
  ∃ v2 A2 c2 B2 d2, e = .returned .nilIface ∧ Row w' gc t [.int .u8 3, .int .u8 0, v2, .int .u32 (tsn : Int), .int .u32 (win : Int), .slice A2 g.length c2, .slice B2 l.length d2] ∧ Rd w' 2 g.length (.slice A2 g.length c2) (prs .u16 g) ∧ Rd w' 1 l.length (.slice B2 l.length d2) (u32s l) ∧ w.grownBy w' (some gc) ∧ (∀ b, b < w.heap.size → Far (.slice B2 l.length d2) b)

set_option maxRecDepth 20000 in
set_option maxHeartbeats 3200000 in
theorem skunmarshal (gc : Nat) (t : TypeId) (A : Option Addr) (n0 c : Nat) (tsn win : Nat) (g : List (Int × Int)) (l : List Int) (w : World) (hr : Row w gc t [.int .u8 0, .int .u8 0, .slice none 0 0, .int .u32 0, .int .u32 0, .slice none 0 0, .slice none 0 0])
    (hs : Sl w (.slice A n0 c) (chunk 3 0 (skbody tsn win g l))) (hf : Far (.slice A n0 c) gc) (hl : g.length ≤ 1000) (hl' : l.length ≤ 1000) (ht : tsn < 4294967296) (hw : win < 4294967296) (hp : ∀ p ∈ g, Ok16 p) (hz : ∀ z ∈ l, Ok32 z) :
    Calls Tryd.prog 70 #[.pointer (some ⟨gc, 0, none⟩), .slice A n0 c] w (SkRead w gc t tsn win g l) := by
  rw [chunk_hd0] at hs
  obtain ⟨n, hn⟩ : ∃ n, n = g.length := ⟨_, rfl⟩
  obtain ⟨q, hq⟩ : ∃ q, q = l.length := ⟨_, rfl⟩
  rw [← hn] at hl
  rw [← hq] at hl'
  have Hn := Lib.hid hn
  have Hq := Lib.hid hq
  have Hr := Lib.hid hr
  have Hs := Lib.hid hs
  have Hf := Lib.hid hf
  have Ht := Lib.hid ht
  have Hw := Lib.hid hw
  have HP := Lib.hid hp
  have HZ := Lib.hid hz
  clear hr hs hf ht hw hp hz hn hq
  go_enter Tryd.func70, Tryd.ntmps70
  go_wp2_with fail
  refine (hunmarshal_ok gc t _ _ _ [_, _, _, _] A n0 c _ _ (skbody tsn win g l) 0 _ Hr.out Hs.out Hf.out (by rw [skbody_length]; have := Hn.out; have := Hq.out; omega) (by omega)).mono ?_
  rintro e w2 ⟨Ar, nr, cr, rfl, hr2, hs2, hf2, hg2⟩
  have hnr := hs2.len
  rw [skbody_length] at hnr
  have Hs2 := Lib.hid hs2
  obtain ⟨A', c', hv, hnc, hcm, hl0, h0, hc⟩ := hs2
  injection hv with e1 e2 e3
  subst e1 e3
  obtain ⟨ga, o, rfl, _⟩ := hc (by rw [skbody_length]; omega)
  have hne : ¬ ga = gc := fun e => hf2 _ _ _ rfl e
  have hcr : nr ≤ cr := by omega
  have hcm' : cr ≤ 9223372036854775807 := by unfold maxLen at hcm; omega
  have n12 : 12 ≤ nr := by omega
  have n5 : nr ≤ 9000 := by have := Hn.out; have := Hq.out; omega
  have Hnr : Hid (nr = 12 + (4 * n + 4 * q)) := by have := Hn.out; have := Hq.out; show _ = _; omega
  have hc0 : ¬ cr = 0 := by omega
  have hc4 : ¬ cr = 4 := by omega
  have hc8 : ¬ cr = 8 := by omega
  have hc10 : ¬ cr = 10 := by omega
  have i4 : (4 : Int) ≤ (nr : Int) := by omega
  have i8 : (8 : Int) ≤ (nr : Int) := by omega
  have i10 : (10 : Int) ≤ (nr : Int) := by omega
  have i12 : ¬ (nr : Int) < 12 := by omega
  have x0 : w2.cell? ⟨gc, 0, none⟩ = some (.int .u8 3) := by rw [hr2.cell]; rfl
  have x2 : w2.cell? ⟨gc, 2, none⟩ = some (.slice (some ⟨ga, o, none⟩) nr cr) := by rw [hr2.cell]; rfl
  have Hr2 := Lib.hid hr2
  have Hg2 := Lib.hid hg2
  clear hr2 hf2 hg2 hc h0 hl0 hcm hnc e2 hnr
  go_upto_region 8 with fail
  have Hsub : Hid (Sl w2.drew (.slice (some ⟨ga, o, none⟩) nr cr) (be 4 tsn ++ (be 4 win ++ (be 2 g.length ++ (be 2 l.length ++ (sbytes g ++ dbytes l)))))) := by
    have h := Hs2.out.drew
    simp only [skbody, skhead, List.append_assoc] at h
    exact h
  go_cut [] (fun wx => Hid (Row wx gc t [.int .u8 3, .int .u8 0, .slice (some ⟨ga, o, none⟩) nr cr, .int .u32 (tsn : Int), .int .u32 0, .slice none 0 0, .slice none 0 0]) ∧ Hid (Sl wx (.slice (some ⟨ga, o, none⟩) nr cr) (skbody tsn win g l)) ∧ Hid (w.grownBy wx (some gc)))
  case first =>
    go_region_with ((go_at_call 80; refine (get32_be _ _ _ tsn _ _ Hsub.out Ht.out).mono ?_; rintro z w3 ⟨rfl, hb3⟩; have hr3 := Hr2.out.drew.below hb3 Hr2.out.lt; have y3 : w3.cell? ⟨gc, 3, none⟩ = some (.int .u32 0) := (by rw [hr3.cell]; rfl); have f3 := hr3.frozen 3))
    all_goals
      go_wp2_with fail
      go_meet
      exact ⟨Lib.hid (hr3.set 3 _), Lib.hid (Sl.only (Hs2.out.drew.below hb3) (only_set (only_refl _ _) 3 _) (fun A n c e => by cases e; exact hne)), Lib.hid (only_set (only_below (only_drew Hg2.out) hb3) 3 _)⟩
  case' rest =>
    obtain ⟨HR, HS, HG⟩ := hcut
    have y2 : wc.cell? ⟨gc, 2, none⟩ = some (.slice (some ⟨ga, o, none⟩) nr cr) := by rw [HR.out.cell]; rfl
  clear x0 x2 Hr2 Hs2 Hsub Hg2
  go_upto_region 9 with fail
  have hsub : Sl wc.drew (.slice (some ⟨ga, o + 4, none⟩) (nr - 4) (cr - 4)) _ := (HS.out.rest 4 (by omega) hc4)
  rw [skbody_drop4] at hsub
  have Hsub := Lib.hid hsub
  clear hsub
  go_cut [] (fun wx => Hid (Row wx gc t [.int .u8 3, .int .u8 0, .slice (some ⟨ga, o, none⟩) nr cr, .int .u32 (tsn : Int), .int .u32 (win : Int), .slice none 0 0, .slice none 0 0]) ∧ Hid (Sl wx (.slice (some ⟨ga, o, none⟩) nr cr) (skbody tsn win g l)) ∧ Hid (w.grownBy wx (some gc)))
  case first =>
    go_region_with ((go_at_call 80; refine (get32_be _ _ _ win _ _ Hsub.out Hw.out).mono ?_; rintro z w3 ⟨rfl, hb3⟩; have hr3 := HR.out.drew.below hb3 HR.out.lt; have y3 : w3.cell? ⟨gc, 4, none⟩ = some (.int .u32 0) := (by rw [hr3.cell]; rfl); have f3 := hr3.frozen 4))
    all_goals
      go_wp2_with fail
      go_meet
      exact ⟨Lib.hid (hr3.set 4 _), Lib.hid (Sl.only (HS.out.drew.below hb3) (only_set (only_refl _ _) 4 _) (fun A n c e => by cases e; exact hne)), Lib.hid (only_set (only_below (only_drew HG.out) hb3) 4 _)⟩
  case' rest =>
    obtain ⟨HR, HS, HG⟩ := hcut
    have y2 : wc.cell? ⟨gc, 2, none⟩ = some (.slice (some ⟨ga, o, none⟩) nr cr) := by rw [HR.out.cell]; rfl
  clear Hsub
  obtain ⟨wb, rfl⟩ : ∃ wb : World, wb = wc := ⟨_, rfl⟩
  have hgcz : gc < wb.heap.size := HR.out.lt
  have HSb := HS
  have HGb := HG
  go_upto_region 10 with fail
  have hsub : Sl wb.drew (.slice (some ⟨ga, o + 8, none⟩) (nr - 8) (cr - 8)) _ := (HS.out.rest 8 (by omega) hc8)
  rw [skbody_drop8, ← Hn.out] at hsub
  have Hsub := Lib.hid hsub
  have hmk := make_gaps n hl
  clear hsub
  go_cut [] (fun wx => ∃ GB, Hid (Row wx gc t [.int .u8 3, .int .u8 0, .slice (some ⟨ga, o, none⟩) nr cr, .int .u32 (tsn : Int), .int .u32 (win : Int), .slice (some ⟨GB, 0, none⟩) n n, .slice none 0 0]) ∧ Hid (Row wx GB 128 (prs .u16 (List.replicate n (0, 0)))) ∧ wb.heap.size ≤ GB ∧ Hid (wb.grownBy wx (some gc)))
  case first =>
    go_region_with ((go_at_call 77; refine (get16_be _ _ _ n _ _ Hsub.out (by omega)).mono ?_; rintro z w3 ⟨rfl, hb3⟩; have hr3 := (HR.out.drew.below hb3 HR.out.lt).alloc (.cells (madeCells #[Value.int .u16 0, .int .u16 0] (n * 2)) 128); have y3 : (w3.alloc (.cells (madeCells #[Value.int .u16 0, .int .u16 0] (n * 2)) 128)).cell? ⟨gc, 5, none⟩ = some (.slice none 0 0) := (by rw [hr3.cell]; rfl); have f3 := hr3.frozen 5))
    all_goals
      go_wp2_with fail
      go_meet
      have hz3 : wb.heap.size ≤ w3.heap.size := hb3.size
      have hgn := Row.new w3 128 (madeCells #[Value.int .u16 0, .int .u16 0] (n * 2))
      rw [made_gaps] at hgn
      exact ⟨w3.heap.size, Lib.hid (hr3.set 5 _), Lib.hid (hgn.far (p := ⟨gc, 5, none⟩) (by simp only [ne_eq]; omega) _), hz3, Lib.hid (only_set (only_alloc (only_below (only_drew (only_refl wb (some gc))) hb3) _) 5 _)⟩
  case' rest =>
    obtain ⟨GB, HR, HGp, hGB, HG⟩ := hcut
    have y2 : wc.cell? ⟨gc, 2, none⟩ = some (.slice (some ⟨ga, o, none⟩) nr cr) := by rw [HR.out.cell]; rfl
    have hS : Sl wc (.slice (some ⟨ga, o, none⟩) nr cr) (skbody tsn win g l) := HSb.out.only HG.out (fun A n c e => by cases e; exact hne)
    have HS := Lib.hid hS
    clear hS
  clear Hsub hmk
  go_upto_region 11 with fail
  have hsub : Sl wc.drew (.slice (some ⟨ga, o + 10, none⟩) (nr - 10) (cr - 10)) _ := (HS.out.rest 10 (by omega) hc10)
  rw [skbody_drop10, ← Hq.out] at hsub
  have Hsub := Lib.hid hsub
  have hmk := make_twice q hl'
  have hzc : wb.heap.size ≤ wc.heap.size := HG.out.size
  have hGBc : GB < wc.heap.size := HGp.out.lt
  have hGBg : GB ≠ gc := by omega
  clear hsub
  obtain ⟨wd, rfl⟩ : ∃ wd : World, wd = wc := ⟨_, rfl⟩
  go_cut [] (fun wx => ∃ DB, Hid (Row wx gc t [.int .u8 3, .int .u8 0, .slice (some ⟨ga, o, none⟩) nr cr, .int .u32 (tsn : Int), .int .u32 (win : Int), .slice (some ⟨GB, 0, none⟩) n n, .slice (some ⟨DB, 0, none⟩) q q]) ∧ Hid (Row wx GB 128 (prs .u16 (List.replicate n (0, 0)))) ∧ Hid (Row wx DB 35 (u32s (List.replicate q 0))) ∧ wb.heap.size ≤ DB ∧ DB ≠ GB ∧ Hid (wb.grownBy wx (some gc)))
  case first =>
    go_region_with ((go_at_call 77; refine (get16_be _ _ _ q _ _ Hsub.out (by omega)).mono ?_; rintro z w3 ⟨rfl, hb3⟩; have hr3 := (HR.out.drew.below hb3 HR.out.lt).alloc (.cells (madeCells #[Value.int .u32 0] q) 35); have y3 : (w3.alloc (.cells (madeCells #[Value.int .u32 0] q) 35)).cell? ⟨gc, 6, none⟩ = some (.slice none 0 0) := (by rw [hr3.cell]; rfl); have f3 := hr3.frozen 6))
    all_goals
      go_wp2_with fail
      go_meet
      have hz3 : wd.heap.size ≤ w3.heap.size := hb3.size
      have hgn := Row.new w3 35 (madeCells #[Value.int .u32 0] q)
      rw [made_twice] at hgn
      have hgb := (HGp.out.drew.below hb3 HGp.out.lt).alloc (.cells (madeCells #[Value.int .u32 0] q) 35)
      exact ⟨w3.heap.size, Lib.hid (hr3.set 6 _), Lib.hid (hgb.far (p := ⟨gc, 6, none⟩) hGBg _), Lib.hid (hgn.far (p := ⟨gc, 6, none⟩) (by simp only [ne_eq]; omega) _), by omega, by omega, Lib.hid (only_set (only_alloc (only_below (only_drew HG.out) hb3) _) 6 _)⟩
  case' rest =>
    clear y2 HS HR HGp HG
    obtain ⟨DB, HR, HGp, HDp, hDB, hDG, HG⟩ := hcut
    have y2 : wc.cell? ⟨gc, 2, none⟩ = some (.slice (some ⟨ga, o, none⟩) nr cr) := by rw [HR.out.cell]; rfl
    have y5 : wc.cell? ⟨gc, 5, none⟩ = some (.slice (some ⟨GB, 0, none⟩) n n) := by rw [HR.out.cell]; rfl
    have y6 : wc.cell? ⟨gc, 6, none⟩ = some (.slice (some ⟨DB, 0, none⟩) q q) := by rw [HR.out.cell]; rfl
  clear Hsub hmk hc0 hc4 hc8 hc10 i4 i8 i10 i12 hzc hGBc
  obtain ⟨a1, ha1⟩ : ∃ a1, a1 = 4 * n := ⟨_, rfl⟩
  obtain ⟨a2, ha2⟩ : ∃ a2, a2 = 4 * q := ⟨_, rfl⟩
  obtain ⟨a3, ha3⟩ : ∃ a3, a3 = a1 + a2 := ⟨_, rfl⟩
  have w1 : IntKind.i64.wrap (4 * (n : Int)) = (a1 : Int) := by simp [IntKind.wrap, IntKind.bits, IntKind.signed]; omega
  have w2 : IntKind.i64.wrap (4 * (q : Int)) = (a2 : Int) := by simp [IntKind.wrap, IntKind.bits, IntKind.signed]; omega
  have w3 : IntKind.i64.wrap ((a1 : Int) + (a2 : Int)) = (a3 : Int) := by simp [IntKind.wrap, IntKind.bits, IntKind.signed]; omega
  have w4 : IntKind.i64.wrap (12 + (a3 : Int)) = (nr : Int) := by have := Hnr.out; simp [IntKind.wrap, IntKind.bits, IntKind.signed]; omega
  clear ha1 ha2 ha3
  go_upto_region 12 with fail
  go_quiet (fail)
  clear w1 w2 w3 w4
  go_wp2
  obtain ⟨wq, rfl⟩ : ∃ wq : World, wq = wc := ⟨_, rfl⟩
  have hGg : GB ≠ gc := by omega
  have hDg : DB ≠ gc := by omega
  have hGg' : gc ≠ GB := by omega
  have hDg' : gc ≠ DB := by omega
  clear y2 y5 y6
  go_loopw [6, 105] (fun a i wr => ∃ (k off : Nat) (g' : List (Int × Int)), k ≤ n ∧ off ≤ nr ∧ a = .int .i64 off ∧ i = .int .i64 k ∧ Hid (off = 12 + 4 * k) ∧ Hid (g'.length = n) ∧ Hid (g'.take k = g.take k) ∧ Hid (Row wr gc t [.int .u8 3, .int .u8 0, .slice (some ⟨ga, o, none⟩) nr cr, .int .u32 (tsn : Int), .int .u32 (win : Int), .slice (some ⟨GB, 0, none⟩) n n, .slice (some ⟨DB, 0, none⟩) q q]) ∧ Hid (Row wr GB 128 (prs .u16 g')) ∧ Hid (Row wr DB 35 (u32s (List.replicate q 0))) ∧ Hid (wb.grownBy wr (some gc))) (fun _ i _ => n - (intOf i).toNat)
  case atStart => exact ⟨0, 12, List.replicate n (0, 0), Nat.zero_le _, n12, rfl, rfl, Lib.hid rfl, Lib.hid (by simp), Lib.hid rfl, Lib.hid (HR.out.drewN _), Lib.hid (HGp.out.drewN _), Lib.hid (HDp.out.drewN _), Lib.hid (only_drewN HG.out _)⟩
  case round =>
    clear HR HGp HDp HG
    obtain ⟨k, off, g', hk, hoff, rfl, rfl, Ho, Hgl, Hgt, HR, HGp, HDp, HG⟩ := hrel
    have hS : Sl wr (.slice (some ⟨ga, o, none⟩) nr cr) (skbody tsn win g l) := HSb.out.only HG.out (fun A n c e => by cases e; exact hne)
    by_cases hlt : k < n
    · have hlk : k < g.length := by have := Hn.out; omega
      have hx : g[k]? = some g[k] := List.getElem?_eq_getElem hlk
      obtain ⟨ha, hb2, ha', hb2'⟩ := HP.out _ (List.getElem_mem hlk)
      generalize g[k] = p at hx ha hb2 ha' hb2'
      obtain ⟨p1, p2⟩ := p
      simp only at ha hb2 ha' hb2'
      have Hp := Lib.hid hx
      have hof : off + 4 ≤ nr := by have := Ho.out; have := Hnr.out; omega
      have hS1 := hS.rest off (by omega) (by omega)
      rw [Ho.out, skbody_gap tsn win g l k _ hx, ← Ho.out] at hS1
      have HS1 := Lib.hid hS1
      have hS2 := hS.rest (off + 2) (by omega) (by omega)
      rw [Ho.out, skbody_gap2 tsn win g l k _ hx, ← Ho.out] at hS2
      obtain ⟨o2, ho2⟩ : ∃ o2, o2 = off + 2 := ⟨_, rfl⟩
      rw [← ho2] at hS2
      have HS2 := Lib.hid hS2
      have Ho2 := Lib.hid ho2
      have hgk : k < g'.length := by have := Hgl.out; omega
      have hx' : g'[k]? = some g'[k] := List.getElem?_eq_getElem hgk
      generalize g'[k] = p' at hx'
      obtain ⟨e1, e2⟩ := prs_get .u16 g' k _ hx'
      have E1 := Lib.hid e1
      have E2 := Lib.hid e2
      have y2 : wr.cell? ⟨gc, 2, none⟩ = some (.slice (some ⟨ga, o, none⟩) nr cr) := by rw [HR.out.cell]; rfl
      have y5 : wr.cell? ⟨gc, 5, none⟩ = some (.slice (some ⟨GB, 0, none⟩) n n) := by rw [HR.out.cell]; rfl
      have i1 : (off : Int) ≤ (nr : Int) := by omega
      have i2 : ¬ cr = off := by omega
      have i3 : (k : Int) < (n : Int) := by omega
      have j1 : (o2 : Int) ≤ (nr : Int) := by omega
      have j2 : ¬ cr = o2 := by omega
      have ww : IntKind.i64.wrap ((off : Int) + 2) = (o2 : Int) := by simp [IntKind.wrap, IntKind.bits, IntKind.signed]; omega
      clear hx hS hS1 hS2 ho2 hx' e1 e2
      go_upto_region 18 with fail
      obtain ⟨wo, rfl⟩ : ∃ wo : World, wo = wr := ⟨_, rfl⟩
      go_cut [] (fun wx => Hid (Row wx gc t [.int .u8 3, .int .u8 0, .slice (some ⟨ga, o, none⟩) nr cr, .int .u32 (tsn : Int), .int .u32 (win : Int), .slice (some ⟨GB, 0, none⟩) n n, .slice (some ⟨DB, 0, none⟩) q q]) ∧ Hid (Row wx GB 128 ((prs .u16 g').set (k * 2) (.int .u16 p1))) ∧ Hid (Row wx DB 35 (u32s (List.replicate q 0))) ∧ Hid (wb.grownBy wx (some gc)) ∧ Hid (Below wo.heap.size wo wo) ∧ Hid (Sl wx (.slice (some ⟨ga, o + o2, none⟩) (nr - o2) (cr - o2)) (be 2 p2.toNat ++ (sbytes (g.drop (k + 1)) ++ dbytes l))))
      case first =>
        go_region_with ((go_at_call 77; refine (get16_be _ _ _ p1.toNat _ _ HS1.out.drew (by omega)).mono ?_; rintro z w3 ⟨rfl, hb3⟩; rw [Int.toNat_of_nonneg ha]; have hr3 := HR.out.drew.below hb3 HR.out.lt; have hg3 := HGp.out.drew.below hb3 HGp.out.lt; have z5 : w3.cell? ⟨gc, 5, none⟩ = some (.slice (some ⟨GB, 0, none⟩) n n) := (by rw [hr3.cell]; rfl); have yg : w3.cell? ⟨GB, k * 2, none⟩ = some (.int .u16 p'.1) := (by rw [hg3.cell]; exact E1.out); have fg := hg3.frozen (k * 2)))
        all_goals
          go_wp2_with fail
          go_meet
          exact ⟨Lib.hid (hr3.far (p := ⟨GB, k * 2, none⟩) hGg' _), Lib.hid (hg3.set (k * 2) _), Lib.hid ((HDp.out.drew.below hb3 HDp.out.lt).far (p := ⟨GB, k * 2, none⟩) hDG _), Lib.hid (only_setCell (p := ⟨GB, k * 2, none⟩) (only_below (only_drew HG.out) hb3) (.inr hGB) _), Lib.hid (Below.refl _ _), Lib.hid (Sl.only (HS2.out.drew.below hb3) (only_set (only_refl _ _) (k * 2) _) (Sl.farOf HSb.out (by have := Hnr.out; rw [skbody_length]; omega) hGB))⟩
      case' rest =>
        clear HR HGp HDp HG HS1 HS2 y2 y5
        obtain ⟨HR, HGp, HDp, HG, _, HS2⟩ := hcut
        have y2 : wc.cell? ⟨gc, 2, none⟩ = some (.slice (some ⟨ga, o, none⟩) nr cr) := by rw [HR.out.cell]; rfl
        have y5 : wc.cell? ⟨gc, 5, none⟩ = some (.slice (some ⟨GB, 0, none⟩) n n) := by rw [HR.out.cell]; rfl
      go_upto_region 19 with fail
      go_cut [] (fun wx => Hid (Row wx gc t [.int .u8 3, .int .u8 0, .slice (some ⟨ga, o, none⟩) nr cr, .int .u32 (tsn : Int), .int .u32 (win : Int), .slice (some ⟨GB, 0, none⟩) n n, .slice (some ⟨DB, 0, none⟩) q q]) ∧ Hid (Row wx GB 128 (prs .u16 (g'.set k (p1, p2)))) ∧ Hid (Row wx DB 35 (u32s (List.replicate q 0))) ∧ Hid (wb.grownBy wx (some gc)))
      case first =>
        go_region_with ((go_at_call 77; refine (get16_be _ _ _ p2.toNat _ _ HS2.out.drew (by omega)).mono ?_; rintro z w3 ⟨rfl, hb3⟩; rw [Int.toNat_of_nonneg ha']; have hr3 := HR.out.drew.below hb3 HR.out.lt; have hg3 := HGp.out.drew.below hb3 HGp.out.lt; have z5 : w3.cell? ⟨gc, 5, none⟩ = some (.slice (some ⟨GB, 0, none⟩) n n) := (by rw [hr3.cell]; rfl); have yg : w3.cell? ⟨GB, k * 2 + 1, none⟩ = some (.int .u16 p'.2) := (by rw [hg3.cell, List.getElem?_set_ne (by omega)]; exact E2.out); have fg := hg3.frozen (k * 2 + 1)))
        all_goals
          go_wp2_with fail
          go_meet
          have hgs := hg3.set (k * 2 + 1) (.int .u16 p2)
          rw [prs_set .u16 g' k (p1, p2) hgk] at hgs
          exact ⟨Lib.hid (hr3.far (p := ⟨GB, k * 2 + 1, none⟩) hGg' _), Lib.hid hgs, Lib.hid ((HDp.out.drew.below hb3 HDp.out.lt).far (p := ⟨GB, k * 2 + 1, none⟩) hDG _), Lib.hid (only_setCell (p := ⟨GB, k * 2 + 1, none⟩) (only_below (only_drew HG.out) hb3) (.inr hGB) _)⟩
      case' rest =>
        clear HR HGp HDp HG HS2 y2 y5 E1 E2
        obtain ⟨HR, HGp, HDp, HG⟩ := hcut
      have Hgl' : Hid ((g'.set k (p1, p2)).length = n) := by show _ = _; rw [List.length_set]; exact Hgl.out
      have Hgt' : Hid ((g'.set k (p1, p2)).take (k + 1) = g.take (k + 1)) := take_set_snoc g g' k (p1, p2) Hgt.out Hp.out hgk
      have Ho' : Hid (off + 4 = 12 + 4 * (k + 1)) := by have := Ho.out; show _ = _; omega
      clear ww i1 i2 j1 j2
      go_wp2
      go_roundw
      case rel => exact ⟨k + 1, off + 4, _, by omega, hof, by go_num, by go_num, Ho', Hgl', Hgt', HR, HGp, HDp, HG⟩
      case measure => simp [intOf]; omega
    · obtain rfl : k = n := by omega
      have hgg : g' = g := by
        have h := Hgt.out
        rw [Hn.out, List.take_length, List.take_of_length_le (by rw [Hgl.out, ← Hn.out]; omega)] at h
        exact h
      subst hgg
      have y6 : wr.cell? ⟨gc, 6, none⟩ = some (.slice (some ⟨DB, 0, none⟩) q q) := by rw [HR.out.cell]; rfl
      have Ho0 : Hid (off = 12 + 4 * k + 4 * 0) := by have := Ho.out; show _ = _; omega
      clear hS
      go_wp2_with fail
      obtain ⟨wo, rfl⟩ : ∃ wo : World, wo = wr := ⟨_, rfl⟩
      go_loopw [6, 149] (fun a i wr => ∃ (j off : Nat) (d' : List Int), j ≤ q ∧ off ≤ nr ∧ a = .int .i64 off ∧ i = .int .i64 j ∧ Hid (off = 12 + 4 * k + 4 * j) ∧ Hid (d'.length = q) ∧ Hid (d'.take j = l.take j) ∧ Hid (Row wr gc t [.int .u8 3, .int .u8 0, .slice (some ⟨ga, o, none⟩) nr cr, .int .u32 (tsn : Int), .int .u32 (win : Int), .slice (some ⟨GB, 0, none⟩) k k, .slice (some ⟨DB, 0, none⟩) q q]) ∧ Hid (Row wr GB 128 (prs .u16 g')) ∧ Hid (Row wr DB 35 (u32s d')) ∧ Hid (wb.grownBy wr (some gc))) (fun _ i _ => q - (intOf i).toNat)
      case atStart => exact ⟨0, off, List.replicate q 0, Nat.zero_le _, hoff, rfl, rfl, Ho0, Lib.hid (by simp), Lib.hid rfl, HR, HGp, HDp, HG⟩
      case round =>
        clear HR HGp HDp HG y6 Ho Ho0 hoff
        obtain ⟨j, off, d', hj, hoff, rfl, rfl, Ho, Hdl, Hdt, HR, HGp, HDp, HG⟩ := hrel
        have hS : Sl wr (.slice (some ⟨ga, o, none⟩) nr cr) (skbody tsn win g' l) := HSb.out.only HG.out (fun A n c e => by cases e; exact hne)
        by_cases hltq : j < q
        · have hlk : j < l.length := by have := Hq.out; omega
          have hx : l[j]? = some l[j] := List.getElem?_eq_getElem hlk
          obtain ⟨ha, hb2⟩ := HZ.out _ (List.getElem_mem hlk)
          generalize l[j] = p1 at hx ha hb2
          have Hp := Lib.hid hx
          have hof : off + 4 ≤ nr := by have := Ho.out; have := Hnr.out; omega
          have hS1 := hS.rest off (by omega) (by omega)
          have hoe : off = 12 + 4 * g'.length + 4 * j := by have := Ho.out; have := Hn.out; omega
          rw [hoe, skbody_dup tsn win g' l j _ hx, ← hoe] at hS1
          have HS1 := Lib.hid hS1
          have hgk : j < d'.length := by have := Hdl.out; omega
          have hx' : (u32s d')[j]? = some (.int .u32 d'[j]) := u32s_get d' j _ (List.getElem?_eq_getElem hgk)
          generalize d'[j] = p' at hx'
          have E1 := Lib.hid hx'
          have y2 : wr.cell? ⟨gc, 2, none⟩ = some (.slice (some ⟨ga, o, none⟩) nr cr) := by rw [HR.out.cell]; rfl
          have y6 : wr.cell? ⟨gc, 6, none⟩ = some (.slice (some ⟨DB, 0, none⟩) q q) := by rw [HR.out.cell]; rfl
          have i1 : (off : Int) ≤ (nr : Int) := by omega
          have i2 : ¬ cr = off := by omega
          have i3 : (j : Int) < (q : Int) := by omega
          clear hx hS hS1 hx' hoe
          go_upto_region 25 with fail
          go_cut [] (fun wx => Hid (Row wx gc t [.int .u8 3, .int .u8 0, .slice (some ⟨ga, o, none⟩) nr cr, .int .u32 (tsn : Int), .int .u32 (win : Int), .slice (some ⟨GB, 0, none⟩) k k, .slice (some ⟨DB, 0, none⟩) q q]) ∧ Hid (Row wx GB 128 (prs .u16 g')) ∧ Hid (Row wx DB 35 (u32s (d'.set j p1))) ∧ Hid (wb.grownBy wx (some gc)))
          case first =>
            go_region_with ((go_at_call 80; refine (get32_be _ _ _ p1.toNat _ _ HS1.out.drew (by omega)).mono ?_; rintro z w3 ⟨rfl, hb3⟩; rw [Int.toNat_of_nonneg ha]; have hr3 := HR.out.drew.below hb3 HR.out.lt; have hg3 := HDp.out.drew.below hb3 HDp.out.lt; have z6 : w3.cell? ⟨gc, 6, none⟩ = some (.slice (some ⟨DB, 0, none⟩) q q) := (by rw [hr3.cell]; rfl); have yg : w3.cell? ⟨DB, j, none⟩ = some (.int .u32 p') := (by rw [hg3.cell]; exact E1.out); have fg := hg3.frozen j))
            all_goals
              go_wp2_with fail
              go_meet
              have hgs := hg3.set j (.int .u32 p1)
              rw [show (u32s d').set j (.int .u32 p1) = u32s (d'.set j p1) by simp [u32s, List.map_set]] at hgs
              exact ⟨Lib.hid (hr3.far (p := ⟨DB, j, none⟩) hDg' _), Lib.hid ((HGp.out.drew.below hb3 HGp.out.lt).far (p := ⟨DB, j, none⟩) (fun e => hDG e.symm) _), Lib.hid hgs, Lib.hid (only_setCell (p := ⟨DB, j, none⟩) (only_below (only_drew HG.out) hb3) (.inr hDB) _)⟩
          case' rest =>
            clear HR HGp HDp HG HS1 y2 y6 E1
            obtain ⟨HR, HGp, HDp, HG⟩ := hcut
          have Hdl' : Hid ((d'.set j p1).length = q) := by show _ = _; rw [List.length_set]; exact Hdl.out
          have Hdt' : Hid ((d'.set j p1).take (j + 1) = l.take (j + 1)) := take_set_snoc l d' j p1 Hdt.out Hp.out hgk
          have Ho' : Hid (off + 4 = 12 + 4 * k + 4 * (j + 1)) := by have := Ho.out; show _ = _; omega
          clear i1 i2
          go_wp2
          go_roundw
          case rel => exact ⟨j + 1, off + 4, _, by omega, hof, by go_num, by go_num, Ho', Hdl', Hdt', HR, HGp, HDp, HG⟩
          case measure => simp [intOf]; omega
        · obtain rfl : j = q := by omega
          have hdd : d' = l := by
            have h := Hdt.out
            rw [Hq.out, List.take_length, List.take_of_length_le (by rw [Hdl.out, ← Hq.out]; omega)] at h
            exact h
          subst hdd
          have r1 := HGp.out.rd (size := 2) (n := k) (c := k) (by rw [prs_length, Hn.out]) (Nat.le_refl _) (by unfold maxLen; omega)
          have r2 := HDp.out.rd (size := 1) (n := j) (c := j) (by rw [u32s_length, Hq.out, Nat.mul_one]) (Nat.le_refl _) (by unfold maxLen; omega)
          have HR' := HR.out
          have hG' := only_trans HGb.out HG.out
          rw [Hn.out] at r1 HR'
          rw [Hq.out] at r2 HR'
          have R1 := Lib.hid r1
          have R2 := Lib.hid r2
          have R3 := Lib.hid HR'
          have R4 := Lib.hid hG'
          have R5 : Hid (∀ b, b < w.heap.size → Far (.slice (some ⟨DB, 0, none⟩) d'.length d'.length) b) := by
            intro b hb A n c e
            injection e with e
            injection e with e
            subst e
            have := HGb.out.size
            simp only [ne_eq]
            omega
          clear r1 r2 HR' hG' hS
          go_wp2
          go_ret
          exact ⟨_, _, _, _, _, rfl, R3.out, R1.out, R2.out, R4.out, R5.out⟩
end Go.Proofs.YtnaihmmfnffejaaDoor
