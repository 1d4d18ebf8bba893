/- Contracts of ZZSackText and SackText. Conditions: the numbers fit; at most 1000 gaps and 1000 numbers that came twice. -/
import Derived.Test.YtnaihmmfnffejaaDoorSkM
namespace Go.Proofs.YtnaihmmfnffejaaDoor
open Go.RowKit Go.Lib

theorem gT : ElT Tryd.prog 123 128 (.agg #[.int .u16 0, .int .u16 0]) 2 4 := ⟨Tryd.underlying123, by kernel_rfl, rfl, by decide⟩
theorem uT : ElT Tryd.prog 42 35 (.int .u32 0) 1 4 := ⟨Tryd.underlying42, by kernel_rfl, rfl, by decide⟩
theorem u32s_one (l : List Int) : ∀ u ∈ u32s l, u.oneCell' = true := by
  intro u hu
  obtain ⟨b, _, rfl⟩ := List.mem_map.1 hu
  rfl
def Ok32 (z : Int) : Prop := 0 ≤ z ∧ z ≤ 4294967295

set_option maxRecDepth 20000 in
set_option maxHeartbeats 1600000 in
theorem zzsktext_any (tsn win : Int) (A : Option Addr) (n c : Nat) (B : Option Addr) (q d : Nat) (g : List (Int × Int)) (l : List Int) (w : World) (hs : Rd w 2 n (.slice A n c) (prs .u16 g)) (hn : n = g.length) (hl : n ≤ 1000) (hp : ∀ p ∈ g, Ok16 p)
    (hs' : Rd w 1 q (.slice B q d) (u32s l)) (hq : q = l.length) (hl' : q ≤ 1000) (hz : ∀ z ∈ l, Ok32 z) (ht0 : 0 ≤ tsn) (ht : tsn ≤ 4294967295) (hw0 : 0 ≤ win) (hw : win ≤ 4294967295) :
    Calls Tryd.prog 50 #[.agg #[.int .u32 tsn, .int .u32 win, .slice A n c, .slice B q d]] w (RetSlE w (chunk 3 0 (skbody tsn.toNat win.toNat g l))) := by
  have Hn := Lib.hid hn
  have Hq := Lib.hid hq
  have HP := Lib.hid hp
  have HZ := Lib.hid hz
  have HS' := Lib.hid hs'
  obtain ⟨A', c', hv, hnc, hcm, hl0, h0, hc⟩ := hs
  injection hv with e1 e2 e3
  subst e1 e3
  have HC := Lib.hid hc
  clear hp hn hl0 h0 hc e2 hs' hq hz
  unfold maxLen at hcm
  go_enter Tryd.func50, Tryd.ntmps50
  go_wp2_with fail
  go_loopw [18] (fun i wr => ∃ (k : Nat) (v : Value), k ≤ n ∧ i = .int .i64 k ∧ Hid (Row wr (w.heap.size + 1) 125 [.int .u8 0, .int .u8 0, .slice none 0 0, .int .u32 tsn, .int .u32 win, v, .slice B q d]) ∧ Hid (wr.ownsRow (w.heap.size + 2) 128 2 v k (prs .u16 (g.take k))) ∧ Hid (Below w.heap.size w wr) ∧ w.heap.size + 2 ≤ wr.heap.size) (fun i _ => n - (intOf i).toNat)
  case atStart => exact ⟨0, .slice none 0 0, Nat.zero_le _, rfl, Lib.hid (Row.new' _ _ _ (by simp)), Lib.hid (World.ownsRow_nil _ _ _ _), Lib.hid (((Below.refl _ _).alloc (Nat.le_refl _) _).alloc (by simp) _), by simp⟩
  case round =>
    obtain ⟨k, v, hk, rfl, HR, HO, HB, hbs⟩ := hrel
    by_cases hlt : k < n
    · obtain ⟨ga, o, rfl, hg⟩ := HC.out (by omega)
      have hlk : k < g.length := by have := Hn.out; omega
      have hx : g[k]? = some g[k] := List.getElem?_eq_getElem hlk
      generalize g[k] = x at hx
      obtain ⟨x1, x2⟩ := x
      obtain ⟨hc1, hc2⟩ := pr_cells hg HB.out hx
      have Hx := Lib.hid hx
      obtain ⟨Av, cv, hv⟩ := own_slice HO.out
      subst hv
      clear hx hg
      go_upto_region 5 with fail
      have hG := Row.new wr 126 #[.int .u16 x1, .int .u16 x2]
      have hRa := HR.out.alloc (.cells #[.int .u16 x1, .int .u16 x2] 126)
      have hOa := HO.out.alloc (.cells #[.int .u16 x1, .int .u16 x2] 126)
      have hBa := HB.out.alloc (by omega) (.cells #[.int .u16 x1, .int .u16 x2] 126)
      have hz : w.heap.size + 2 ≤ (wr.alloc (.cells #[.int .u16 x1, .int .u16 x2] 126)).heap.size := by simp; omega
      have hgp : w.heap.size + 2 ≤ wr.heap.size := hbs
      generalize wr.alloc (.cells #[.int .u16 x1, .int .u16 x2] 126) = W at hG hRa hOa hBa hz ⊢
      generalize wr.heap.size = gp at hG hgp ⊢
      have k1 : W.cell? ⟨gp, 0, none⟩ = some (.int .u16 x1) := by rw [hG.cell]; rfl
      have k2 : W.cell? ⟨gp, 1, none⟩ = some (.int .u16 x2) := by rw [hG.cell]; rfl
      have k4 : W.cell? ⟨w.heap.size + 1, 5, none⟩ = some (.slice Av k cv) := by rw [hRa.cell]; rfl
      have m1 : (W.alloc (Obj.cells #[.int .u16 x1, .int .u16 x2] 128)).cell? ⟨w.heap.size + 1, 5, none⟩ = some (.slice Av k cv) := by rw [(hRa.alloc _).cell]; rfl
      have HRa := Lib.hid hRa
      have HOa := Lib.hid hOa
      have HBa := Lib.hid hBa
      clear hG hRa hOa hBa hc1 hc2 hbs
      go_region_law ((refine step_append_rd _ rfl _ _ rfl gT (w.heap.size + 2) _ k _ rfl (HOa.out.drew.alloc _) _ 1 [_, _] rfl (Rd.lit2 _ _ _ _ (by simp)) (by simp [Value.oneCell']) (by unfold maxLen; omega) (by omega) (by simp; omega) ?_; intro v1 w5 hown5 hg5 _; obtain ⟨A1, c1, e1⟩ := own_slice hown5; subst e1; have hr5 := (HRa.out.drew.alloc (.cells #[.int .u16 x1, .int .u16 x2] 128)).grown hg5 (own_apart HOa.out (by omega)).symm; have y4 : w5.cell? ⟨w.heap.size + 1, 5, none⟩ = some (.slice Av k cv) := (by rw [hr5.cell]; rfl); have f4 := hr5.frozen 5))
      all_goals
        have hb5 := (HBa.out.drew.alloc (by simp; omega) (.cells #[.int .u16 x1, .int .u16 x2] 128)).grown hg5 (by simp; omega) (fun j hj => by have := (HOa.out.lt j hj).1; omega)
        have hO6 : w5.grownBy (w5.setCell ⟨w.heap.size + 1, 5, none⟩ (.slice A1 (k + 1) c1)) (some (w.heap.size + 1)) := only_set (only_refl _ _) 5 _
        have hR6 := Lib.hid (hr5.set 5 (.slice A1 (k + 1) c1))
        rw [← prs_take .u16 g k _ Hx.out] at hown5
        have hown6 := Lib.hid (hown5.kept hO6 (.inr (own_apart hown5 (by omega))))
        have hb6 := Lib.hid (below_only hb5 hb5.size hO6 (by omega))
        have hz6 : w.heap.size + 2 ≤ (w5.setCell ⟨w.heap.size + 1, 5, none⟩ (.slice A1 (k + 1) c1)).heap.size := by
          have h1 := hg5.size
          have h2 := hO6.size
          simp at h1
          omega
        clear hb5 hO6 hr5 hown5 y4 f4 k1 k2 k4 hg5 m1
        generalize w5.setCell ⟨w.heap.size + 1, 5, none⟩ (.slice A1 (k + 1) c1) = W6 at hR6 hown6 hb6 hz6 ⊢
        go_wp2
        go_roundw
        case rel => exact ⟨k + 1, _, by omega, by go_num, hR6, hown6, hb6, hz6⟩
        case measure => simp [intOf]; omega
    · obtain rfl : k = n := by omega
      have hO := HO.out
      rw [show g.take k = g by rw [Hn.out, List.take_length]] at hO
      obtain ⟨Av, cv, hv⟩ := own_slice hO
      subst hv
      have HO2 := Lib.hid (Rd.of_own hO)
      have HD2 := Lib.hid (HS'.out.below HB.out)
      clear hO HO
      go_wp2_with fail
      refine (skmarshal (w.heap.size + 1) _ tsn win Av k cv B q d g l _ HR.out HO2.out Hn.out hl HD2.out Hq.out hl' ht0 ht hw0 hw HP.out HZ.out).mono ?_
      rintro e w7 ⟨A7, n7, c7, rfl, hs7, hg7⟩
      have Hs7 := Lib.hid hs7
      have Hb7 := Lib.hid (below_only HB.out HB.out.size hg7 (by omega))
      clear hs7 hg7
      go_wp2
      go_ret2
      exact ⟨A7, n7, c7, rfl, Hs7.out, Hb7.out⟩

theorem Row.four {w : World} {g : Nat} {t : TypeId} {a b c d : Value} (h : Row w g t [a, b, c, d]) : w.cell? ⟨g, 0, none⟩ = some a ∧ w.cell? ⟨g, 1, none⟩ = some b ∧ w.cell? ⟨g, 2, none⟩ = some c ∧ w.cell? ⟨g, 3, none⟩ = some d := by
  simp only [h.cell]
  exact ⟨rfl, rfl, rfl, rfl⟩

set_option maxRecDepth 20000 in
set_option maxHeartbeats 1600000 in
theorem sktext_any (tsn win : Int) (A : Option Addr) (n c : Nat) (B : Option Addr) (q d : Nat) (g : List (Int × Int)) (l : List Int) (w : World) (hs : Rd w 2 n (.slice A n c) (prs .i64 g)) (hn : n = g.length) (hl : n ≤ 1000) (hp : ∀ p ∈ g, Ok16 p)
    (hs' : Rd w 1 q (.slice B q d) (u32s l)) (hq : q = l.length) (hl' : q ≤ 1000) (hz : ∀ z ∈ l, Ok32 z) (ht0 : 0 ≤ tsn) (ht : tsn ≤ 4294967295) (hw0 : 0 ≤ win) (hw : win ≤ 4294967295) :
    Calls Tryd.prog 24 #[.agg #[.int .u32 tsn, .int .u32 win, .slice A n c, .slice B q d]] w (RetSlB w (chunk 3 0 (skbody tsn.toNat win.toNat g l))) := by
  have HP := Lib.hid hp
  have Hn := Lib.hid hn
  have HZ := Lib.hid hz
  have Hq := Lib.hid hq
  have hg := Row.new w 44 #[.int .u32 tsn, .int .u32 win, .slice A n c, .slice B q d]
  have hsa := hs.alloc (.cells #[.int .u32 tsn, .int .u32 win, .slice A n c, .slice B q d] 44)
  have hsb := hs'.alloc (.cells #[.int .u32 tsn, .int .u32 win, .slice A n c, .slice B q d] 44)
  have hba := (Below.refl w.heap.size w).alloc (Nat.le_refl _) (.cells #[.int .u32 tsn, .int .u32 win, .slice A n c, .slice B q d] 44)
  clear hs hn hp hs' hq hz
  go_enter Tryd.func24, Tryd.ntmps24
  go_wp2_with fail
  generalize w.alloc (.cells #[.int .u32 tsn, .int .u32 win, .slice A n c, .slice B q d] 44) = W at hg hsa hsb hba ⊢
  generalize hG : w.heap.size = G at hg ⊢
  have hk := Row.four (w := W.drew) hg
  have Hg := Lib.hid hg
  have Hsa := Lib.hid hsa
  have Hsb := Lib.hid hsb
  have Hba := Lib.hid hba
  have HG := Lib.hid hG
  clear hg hsa hsb hba hG
  go_region_held3 (fun w' => w'.cell? ⟨G, 0, none⟩ = some (.int .u32 tsn) ∧ w'.cell? ⟨G, 1, none⟩ = some (.int .u32 win) ∧ w'.cell? ⟨G, 2, none⟩ = some (.slice A n c) ∧ w'.cell? ⟨G, 3, none⟩ = some (.slice B q d)) (first | (with_reducible exact hk) | (with_reducible exact k1) | (with_reducible exact k2) | (with_reducible exact k3))
    (first
      | (go_at_call 51; refine (halves_any _ g _ (by rw [← Hn.out]; exact Hsa.out.drew) (by rw [← Hn.out]; omega) HP.out).mono ?_; rintro z w1 ⟨A1, c1, rfl, hs1, hb1⟩; rw [← Hn.out] at hs1 ⊢; have Q1 := Lib.hid hs1; have B1 := Lib.hid hb1; have g1 := Hg.out.drew.below hb1 Hg.out.drew.lt; have G1 := Lib.hid g1; have k1 := g1.four; clear g1 hs1 hb1)
      | (go_at_call 50; refine (zzsktext_any tsn win A1 n c1 A3 q c3 g l _ Q3.out Hn.out hl HP.out U3.out Hq.out hl' HZ.out ht0 ht hw0 hw).mono ?_; rintro z w2 ⟨A2, n2, c2, rfl, hs2, hb2⟩; have Q2 := Lib.hid hs2; have B2 := Lib.hid hb2; have g2 := G3.out.below hb2 G3.out.lt; have k2 := g2.four; clear g2 hs2 hb2)
      | (refine step_append_rd _ rfl _ _ rfl uT w1.heap.size (.slice none 0 0) 0 [] rfl (World.ownsRow_nil _ _ _ _) _ q (u32s l) rfl (Hsb.out.drew.below B1.out) (u32s_one l) (by unfold maxLen; omega) (by omega) (Nat.le_refl _) ?_; intro v3 w3 hown3 hg3 _; rw [Nat.zero_add, List.nil_append] at hown3; obtain ⟨A3, c3, e3⟩ := own_slice hown3; subst e3; have hb3 : Below w1.heap.size w1 w3 := (Below.refl _ _).grown hg3 (Nat.le_refl _) (fun k hk => by cases hk); have U3 := Lib.hid (Rd.of_own hown3); have B3 := Lib.hid hb3; have Q3 := Lib.hid (Q1.out.below hb3); have g3 := G1.out.below hb3 G1.out.lt; have G3 := Lib.hid g3; have k3 := g3.four; clear g3 hb3 hown3 hg3))
  have d0 := Hba.out.drew
  have d1 := below_step d0 d0.size B1.out
  have d2 := below_step d1 d1.size B3.out
  have D2 := Lib.hid (below_step d2 d2.size B2.out)
  clear hk k1 k2 k3 d0 d1 d2
  go_wp2_with fail
  go_region_with ((go_at_call 40; refine (copied_any _ _ _ Q2.out.drew (by rw [chunk_length, skbody_length, ← Hn.out, ← Hq.out]; omega)).mono ?_; rintro e w3 ⟨A3, n3, c3, rfl, hs3, hb3⟩))
  have Hs3 := Lib.hid hs3
  have Hb3 := Lib.hid hb3
  clear hs3 hb3
  go_wp2
  go_ret2
  exact ⟨A3, n3, c3, rfl, Hs3.out, D2.out.drew.trans (Hb3.out.mono D2.out.size)⟩
end Go.Proofs.YtnaihmmfnffejaaDoor
