/- Contracts of zzFits4, IsForward, the reference's Forward. Conditions: the numbers fit (Forward). -/
import Derived.Test.YtnaihmmfnffejaaDoorFwm
import Derived.Test.YtnaihmmfnffejaaDoorDat
namespace Go.Proofs.YtnaihmmfnffejaaDoor
open Go.RowKit Go.Lib

theorem fits4_any (tsn : Int) (A : Option Addr) (n c : Nat) (w : World) : Calls Tryd.prog 27 #[.agg #[.int .u32 tsn, .slice A n c]] w fun z w' => z = .returned (.bool (decide ((n : Int) ≤ 2147483647))) ∧ Below w.heap.size w w' := by
  by_cases h : (n : Int) ≤ 2147483647
  · rw [decide_eq_true h]
    have h' : ¬ (2147483647 < (n : Int)) := by omega
    go_enter Tryd.func27, Tryd.ntmps27
    go_wp2
    go_ret
    exact ⟨rfl, (Below.refl _ _).alloc (Nat.le_refl _) _⟩
  · rw [decide_eq_false h]
    have h' : 2147483647 < (n : Int) := by omega
    go_enter Tryd.func27, Tryd.ntmps27
    go_wp2
    go_ret
    exact ⟨rfl, (Below.refl _ _).alloc (Nat.le_refl _) _⟩

/-- The pair fits 16 bits. -/
def Ok16 (p : Int × Int) : Prop := 0 ≤ p.1 ∧ p.1 ≤ 65535 ∧ 0 ≤ p.2 ∧ p.2 ≤ 65535

theorem isFw_yes (tsn : Int) (A : Option Addr) (n c : Nat) (l : List (Int × Int)) (w : World) (hs : Rd w 2 n (.slice A n c) (prs .i64 l)) (hn : n = l.length) (hl : n ≤ 1000) (hp : ∀ p ∈ l, Ok16 p) :
    Calls Tryd.prog 28 #[.agg #[.int .u32 tsn, .slice A n c]] w fun z w' => z = .returned (.bool true) ∧ Below w.heap.size w w' := by
  have Hn := Lib.hid hn
  have HP := Lib.hid hp
  obtain ⟨A', c', hv, hnc, hcm, hl0, h0, hc⟩ := hs
  injection hv with e1 e2 e3
  subst e1 e3
  have HC := Lib.hid hc
  have hl' : ¬ (1000 < (n : Int)) := by omega
  clear hp hn hl0 h0 hc e2
  unfold maxLen at hcm
  go_enter Tryd.func28, Tryd.ntmps28
  go_wp2
  go_loopw [12] (fun i wr => ∃ k : Nat, k ≤ n ∧ i = .int .i64 k ∧ Below w.heap.size w wr) (fun i _ => n - (intOf i).toNat)
  case atStart => exact ⟨0, Nat.zero_le _, rfl, (Below.refl _ _).alloc (Nat.le_refl _) _⟩
  case round =>
    obtain ⟨k, hk, rfl, hb⟩ := hrel
    have hbs := hb.size
    have Hb := Lib.hid hb
    by_cases hlt : k < n
    · obtain ⟨g, o, rfl, hg⟩ := HC.out (by omega)
      have hlk : k < l.length := by have := Hn.out; omega
      have hx : l[k]? = some l[k] := List.getElem?_eq_getElem hlk
      obtain ⟨ha, hb2, ha', hb2'⟩ := HP.out _ (List.getElem_mem hlk)
      generalize l[k] = x at hx ha hb2 ha' hb2'
      obtain ⟨x1, x2⟩ := x
      simp only at ha hb2 ha' hb2'
      obtain ⟨hc1, hc2⟩ := pr_cells hg hb hx
      clear hx hg hb
      go_wp2
      go_roundw
      case rel => exact ⟨k + 1, by omega, by go_num, Hb.out.alloc hbs _⟩
      case measure => simp [intOf]; omega
    · obtain rfl : k = n := by omega
      clear hb
      go_wp2
      go_ret
      exact ⟨rfl, Hb.out⟩

theorem isFw_no (tsn : Int) (A : Option Addr) (n c : Nat) (l : List (Int × Int)) (w : World) (hs : Rd w 2 n (.slice A n c) (prs .i64 l)) (hn : n = l.length) (hl : ¬ (n ≤ 1000 ∧ ∀ p ∈ l, Ok16 p)) :
    Calls Tryd.prog 28 #[.agg #[.int .u32 tsn, .slice A n c]] w fun z w' => z = .returned (.bool false) ∧ Below w.heap.size w w' := by
  by_cases hl' : 1000 < (n : Int)
  · clear hs hl hn
    go_enter Tryd.func28, Tryd.ntmps28
    go_wp2
    go_ret
    exact ⟨rfl, (Below.refl _ _).alloc (Nat.le_refl _) _⟩
  have hbad : ∃ (j : Nat) (p : Int × Int), 0 ≤ j ∧ l[j]? = some p ∧ ¬ Ok16 p := by
    have h : ¬ ∀ p ∈ l, Ok16 p := fun h => hl ⟨by omega, h⟩
    simp only [Classical.not_forall] at h
    obtain ⟨p, hp, hb⟩ := h
    obtain ⟨j, hj⟩ := List.mem_iff_getElem?.1 hp
    exact ⟨j, p, Nat.zero_le _, hj, hb⟩
  have Hn := Lib.hid hn
  have HB := Lib.hid hbad
  obtain ⟨A', c', hv, hnc, hcm, hl0, h0, hc⟩ := hs
  injection hv with e1 e2 e3
  subst e1 e3
  have HC := Lib.hid hc
  have hln : (n : Int) ≤ 1000 := by omega
  clear hbad hl hn hl0 h0 hc e2
  unfold maxLen at hcm
  go_enter Tryd.func28, Tryd.ntmps28
  go_wp2
  go_loopw [12] (fun i wr => ∃ k : Nat, k ≤ n ∧ i = .int .i64 k ∧ Hid (∃ (j : Nat) (p : Int × Int), k ≤ j ∧ l[j]? = some p ∧ ¬ Ok16 p) ∧ Below w.heap.size w wr) (fun i _ => n - (intOf i).toNat)
  case atStart => exact ⟨0, Nat.zero_le _, rfl, HB, (Below.refl _ _).alloc (Nat.le_refl _) _⟩
  case round =>
    obtain ⟨k, hk, rfl, HB', hb⟩ := hrel
    have hbs := hb.size
    have Hb := Lib.hid hb
    have hlt : k < n := by
      obtain ⟨j, p, hj, hp, _⟩ := HB'.out
      have := (List.getElem?_eq_some_iff.1 hp).1
      have := Hn.out
      omega
    obtain ⟨g, o, rfl, hg⟩ := HC.out (by omega)
    have hlk : k < l.length := by have := Hn.out; omega
    have hx : l[k]? = some l[k] := List.getElem?_eq_getElem hlk
    generalize l[k] = x at hx
    obtain ⟨x1, x2⟩ := x
    obtain ⟨hc1, hc2⟩ := pr_cells hg hb hx
    by_cases hok : Ok16 (x1, x2)
    · obtain ⟨ha, hb2, ha', hb2'⟩ := hok
      have HB2 : Hid (∃ (j : Nat) (p : Int × Int), k + 1 ≤ j ∧ l[j]? = some p ∧ ¬ Ok16 p) := by
        obtain ⟨j, p, hj, hp, hq⟩ := HB'.out
        refine ⟨j, p, ?_, hp, hq⟩
        rcases Nat.lt_or_ge k j with h | h
        · omega
        · obtain rfl : j = k := by omega
          rw [hx] at hp
          injection hp with hp
          subst hp
          exact absurd ⟨ha, hb2, ha', hb2'⟩ hq
      simp only at ha hb2 ha' hb2'
      clear hx hg hb HB' HB
      go_wp2
      go_roundw
      case rel => exact ⟨k + 1, by omega, by go_num, HB2, Hb.out.alloc hbs _⟩
      case measure => simp [intOf]; omega
    · have h4 : x1 < 0 ∨ 65535 < x1 ∨ x2 < 0 ∨ 65535 < x2 := by
        unfold Ok16 at hok
        simp only at hok
        omega
      clear hx hg hb HB' HB hok
      rcases h4 with h | h | h | h
      all_goals
        go_wp2
        all_goals
          go_ret
          exact ⟨rfl, Hb.out.alloc hbs _⟩

theorem Row.two {w : World} {g : Nat} {t : TypeId} {a b : Value} (h : Row w g t [a, b]) : w.cell? ⟨g, 0, none⟩ = some a ∧ w.cell? ⟨g, 1, none⟩ = some b := by
  simp only [h.cell]
  exact ⟨rfl, rfl⟩

set_option maxRecDepth 20000 in
theorem specfw_any (tsn : Int) (A : Option Addr) (n c : Nat) (l : List (Int × Int)) (w : World) (hs : Rd w 2 n (.slice A n c) (prs .i64 l)) (hn : n = l.length) (hl : n ≤ 1000) (hp : ∀ p ∈ l, Ok16 p) (ht0 : 0 ≤ tsn) (ht : tsn ≤ 4294967295) :
    Calls Tryd.prog 31 #[.agg #[.int .u32 tsn, .slice A n c]] w (RetSl w (chunk 192 0 (fwbody tsn.toNat l))) := by
  have Hn := Lib.hid hn
  have HP := Lib.hid hp
  obtain ⟨A', c', hv, hnc, hcm, hl0, h0, hc⟩ := hs
  injection hv with e1 e2 e3
  subst e1 e3
  have HC := Lib.hid hc
  clear hp hn hl0 h0 hc e2
  unfold maxLen at hcm
  have ht' : IntKind.i64.wrap tsn = tsn := by simp [IntKind.wrap, IntKind.bits, IntKind.signed]; omega
  have hg := Row.new w 52 #[.int .u32 tsn, .slice A n c]
  go_enter Tryd.func31, Tryd.ntmps31
  go_wp2_with fail
  refine (number_any tsn 4 _ ht0 (by omega) (by omega) (by omega)).mono ?_
  rintro e w1 ⟨A1, n1, c1, rfl, hs1, hb1⟩
  have hg1 := hg.below hb1 hg.lt
  have k0 : w1.cell? ⟨w.heap.size, 0, none⟩ = some (.int .u32 tsn) := by rw [hg1.cell]; rfl
  have k1 : w1.cell? ⟨w.heap.size, 1, none⟩ = some (.slice A n c) := by rw [hg1.cell]; rfl
  have Hb1 := Lib.hid (((Below.refl w.heap.size w).alloc (Nat.le_refl _) (.cells #[.int .u32 tsn, .slice A n c] 52)).trans (hb1.mono (by simp)))
  have Hs1 := Lib.hid hs1
  clear hg hg1 hb1 hs1 ht'
  go_wp2_with fail
  go_loopw [3, 13] (fun v i wr => ∃ k : Nat, k ≤ n ∧ i = .int .i64 k ∧ Hid (Sl wr v (fwbody tsn.toNat (l.take k))) ∧ Below w.heap.size w wr) (fun _ i _ => n - (intOf i).toNat)
  case atStart => exact ⟨0, Nat.zero_le _, rfl, by simpa [fwbody, sbytes] using Hs1, Hb1.out⟩
  case round =>
    obtain ⟨k, hk, rfl, HS, hb⟩ := hrel
    have hbs := hb.size
    have Hb := Lib.hid hb
    by_cases hlt : k < n
    · obtain ⟨g, o, rfl, hg⟩ := HC.out (by omega)
      have hlk : k < l.length := by have := Hn.out; omega
      have hx : l[k]? = some l[k] := List.getElem?_eq_getElem hlk
      obtain ⟨ha, hb2, ha', hb2'⟩ := HP.out _ (List.getElem_mem hlk)
      generalize l[k] = x at hx ha hb2 ha' hb2'
      obtain ⟨x1, x2⟩ := x
      simp only at ha hb2 ha' hb2'
      obtain ⟨hc1, hc2⟩ := pr_cells hg hb hx
      have Hx := Lib.hid hx
      have hlen : (fwbody tsn.toNat (l.take k)).length ≤ 5000 := by rw [fwbody_length]; simp; omega
      have Hlen := Lib.hid hlen
      obtain ⟨Au, nu, cu, hu⟩ : ∃ Au nu cu, u3 = Value.slice Au nu cu := by
        obtain ⟨Au, cu, hv, _⟩ := HS.out
        exact ⟨Au, _, cu, hv⟩
      subst hu
      clear hx hg hb k0 k1 hlen
      go_upto_region 5 with fail
      have hG := Row.new wr 50 #[.int .i64 x1, .int .i64 x2]
      have hSa := HS.out.alloc (.cells #[.int .i64 x1, .int .i64 x2] 50)
      have hBa := Hb.out.alloc hbs (.cells #[.int .i64 x1, .int .i64 x2] 50)
      generalize wr.alloc (.cells #[.int .i64 x1, .int .i64 x2] 50) = W at hG hSa hBa ⊢
      generalize wr.heap.size = gp at hG ⊢
      have HG := Lib.hid hG
      have HSa := Lib.hid hSa
      have HBa := Lib.hid hBa
      have hk2 : W.drew.cell? ⟨gp, 0, none⟩ = some (.int .i64 x1) ∧ W.drew.cell? ⟨gp, 1, none⟩ = some (.int .i64 x2) := ⟨by rw [hG.drew.cell]; rfl, by rw [hG.drew.cell]; rfl⟩
      clear hG hSa hBa hc1 hc2 hbs
      go_region_held3 (fun w' => w'.cell? ⟨gp, 0, none⟩ = some (.int .i64 x1) ∧ w'.cell? ⟨gp, 1, none⟩ = some (.int .i64 x2)) (first | (with_reducible exact hk2) | (with_reducible exact kk1) | (with_reducible exact kk2) | (with_reducible exact kk5) | exact Row.two (Row.alloc G2.out _))
        (first
          | (go_at_call_of 42 (Value.int IntKind.i64 x1); refine (number_any x1 2 _ ha (by omega) (by omega) (by omega)).mono ?_; rintro z w1 ⟨A1, n1, c1, rfl, hs1, hb1⟩; have Q1 := Lib.hid hs1; have B1 := Lib.hid hb1; have g1 := HG.out.drew.below hb1 HG.out.drew.lt; have G1 := Lib.hid g1; have kk1 := g1.two; clear g1 hs1 hb1)
          | (go_at_call_of 42 (Value.int IntKind.i64 x2); refine (number_any x2 2 _ ha' (by omega) (by omega) (by omega)).mono ?_; rintro z w2 ⟨A2, n2, c2, rfl, hs2, hb2⟩; have Q2 := Lib.hid hs2; have B2 := Lib.hid hb2; have g2 := G1.out.below hb2 G1.out.lt; have G2 := Lib.hid g2; have kk2 := g2.two; clear g2 hs2 hb2)
          | (go_at_call 41; refine (joined_any _ [.slice Au nu cu, .slice A1 n1 c1, .slice A2 n2 c2] [fwbody tsn.toNat (l.take k), be (Int.toNat 2) x1.toNat, be (Int.toNat 2) x2.toNat] _ (Rd.lit w2 22 [.slice Au nu cu, .slice A1 n1 c1, .slice A2 n2 c2] 3 rfl (by omega)) (.cons (((HSa.out.drew.below B1.out).below B2.out).alloc _) (.cons ((Q1.out.below B2.out).alloc _) (.cons (Q2.out.alloc _) (Sls.nil _)))) (by have := Hlen.out; simp [be_length]; omega) (by simp)).mono ?_; rintro z w5 ⟨A5, n5, c5, rfl, hs5, hb5⟩; have Q5 := Lib.hid hs5; have B5 := Lib.hid hb5; have g5 := (G2.out.alloc _).below hb5 (G2.out.alloc _).lt; have kk5 := g5.two; clear g5 hs5 hb5))
      have e0 : [fwbody tsn.toNat (l.take k), be (Int.toNat 2) x1.toNat, be (Int.toNat 2) x2.toNat].flatten = fwbody tsn.toNat (l.take (k + 1)) := by
        rw [fwbody_take _ l k _ Hx.out]; simp
      have S5 := Q5.out
      rw [e0] at S5
      have HS5 := Lib.hid S5
      have d0 := HBa.out.drew
      have d1 := below_step d0 d0.size B1.out
      have d2 := below_step d1 d1.size B2.out
      have d3 := d2.alloc d2.size (.cells [.slice Au nu cu, .slice A1 n1 c1, .slice A2 n2 c2].toArray 22)
      have D5 := Lib.hid (below_step d3 d3.size B5.out)
      clear hk2 kk1 kk2 kk5 d0 d1 d2 d3 e0 S5 ha hb2 ha' hb2'
      go_wp2
      go_roundw
      case rel => exact ⟨k + 1, by omega, by go_num, HS5, D5.out⟩
      case measure => simp [intOf]; omega
    · obtain rfl : k = n := by omega
      have hS := HS.out
      rw [show l.take k = l by rw [Hn.out, List.take_length]] at hS
      have HS2 := Lib.hid hS
      clear hS hb
      go_wp2_with fail
      refine (chunk_any 192 0 _ _ _ (by omega) (by omega) (by omega) (by omega) HS2.out (by rw [fwbody_length]; have := Hn.out; omega)).mono ?_
      rintro e w7 ⟨A7, n7, c7, rfl, hs7, hb7⟩
      have Hs7 := Lib.hid hs7
      have Hb7 := Lib.hid (below_step Hb.out hbs hb7)
      clear hs7 hb7
      go_wp2
      go_ret
      exact ⟨A7, n7, c7, rfl, Hs7.out, Hb7.out⟩
end Go.Proofs.YtnaihmmfnffejaaDoor
