/- Contracts of zzFits3, IsSack, the reference's Sack. Conditions: the numbers fit (Sack). -/
import Derived.Test.YtnaihmmfnffejaaDoorSkT
namespace Go.Proofs.YtnaihmmfnffejaaDoor
open Go.RowKit Go.Lib

theorem fits3_yes (tsn win : Int) (A : Option Addr) (n c : Nat) (B : Option Addr) (q d : Nat) (w : World) (h : (n : Int) ≤ 2147483647) (h' : (q : Int) ≤ 2147483647) : Calls Tryd.prog 22 #[.agg #[.int .u32 tsn, .int .u32 win, .slice A n c, .slice B q d]] w fun z w' => z = .returned (.bool true) ∧ Below w.heap.size w w' := by
  have h1 : ¬ (2147483647 < (n : Int)) := by omega
  have h2 : ¬ (2147483647 < (q : Int)) := by omega
  go_enter Tryd.func22, Tryd.ntmps22
  go_wp2
  go_ret
  exact ⟨rfl, (Below.refl _ _).alloc (Nat.le_refl _) _⟩
theorem fits3_no (tsn win : Int) (A : Option Addr) (n c : Nat) (B : Option Addr) (q d : Nat) (w : World) (h : 2147483647 < (n : Int) ∨ 2147483647 < (q : Int)) : Calls Tryd.prog 22 #[.agg #[.int .u32 tsn, .int .u32 win, .slice A n c, .slice B q d]] w fun z w' => z = .returned (.bool false) ∧ Below w.heap.size w w' := by
  by_cases h1 : 2147483647 < (n : Int)
  · clear h
    go_enter Tryd.func22, Tryd.ntmps22
    go_wp2
    go_ret
    exact ⟨rfl, (Below.refl _ _).alloc (Nat.le_refl _) _⟩
  · have h2 : 2147483647 < (q : Int) := by omega
    clear h
    go_enter Tryd.func22, Tryd.ntmps22
    go_wp2
    go_ret
    exact ⟨rfl, (Below.refl _ _).alloc (Nat.le_refl _) _⟩

theorem isSk_yes (tsn win : Int) (A : Option Addr) (n c : Nat) (B : Option Addr) (q d : Nat) (l : List (Int × Int)) (w : World) (hs : Rd w 2 n (.slice A n c) (prs .i64 l)) (hn : n = l.length) (hl : n ≤ 1000) (hq : q ≤ 1000) (hp : ∀ p ∈ l, Ok16 p) :
    Calls Tryd.prog 23 #[.agg #[.int .u32 tsn, .int .u32 win, .slice A n c, .slice B q d]] w fun z w' => z = .returned (.bool true) ∧ Below w.heap.size w w' := by
  have Hn := Lib.hid hn
  have HP := Lib.hid hp
  obtain ⟨A', c', hv, hnc, hcm, hl0, h0, hc⟩ := hs
  injection hv with e1 e2 e3
  subst e1 e3
  have HC := Lib.hid hc
  have hl' : ¬ (1000 < (n : Int)) := by omega
  have hq' : ¬ (1000 < (q : Int)) := by omega
  clear hp hn hl0 h0 hc e2
  unfold maxLen at hcm
  go_enter Tryd.func23, Tryd.ntmps23
  go_wp2
  go_loopw [18] (fun i wr => ∃ k : Nat, k ≤ n ∧ i = .int .i64 k ∧ Below w.heap.size w wr) (fun i _ => n - (intOf i).toNat)
  case atStart => exact ⟨0, Nat.zero_le _, rfl, (Below.refl _ _).alloc (Nat.le_refl _) _⟩
  case round =>
    obtain ⟨k, hk, rfl, hb⟩ := hrel
    have hbs := hb.size
    have Hb := Lib.hid hb
    by_cases hlt : k < n
    · obtain ⟨g, o, rfl, hg⟩ := HC.out (by omega)
      have hlk : k < l.length := by have := Hn.out; omega
      have hx : l[k]? = some l[k] := List.getElem?_eq_getElem hlk
      obtain ⟨ha, hb2, ha', hb2'⟩ := HP.out _ (List.getElem_mem hlk)
      generalize l[k] = x at hx ha hb2 ha' hb2'
      obtain ⟨x1, x2⟩ := x
      simp only at ha hb2 ha' hb2'
      obtain ⟨hc1, hc2⟩ := pr_cells hg hb hx
      clear hx hg hb
      go_wp2
      go_roundw
      case rel => exact ⟨k + 1, by omega, by go_num, Hb.out.alloc hbs _⟩
      case measure => simp [intOf]; omega
    · obtain rfl : k = n := by omega
      clear hb
      go_wp2
      go_ret
      exact ⟨rfl, Hb.out⟩

theorem isSk_no (tsn win : Int) (A : Option Addr) (n c : Nat) (B : Option Addr) (q d : Nat) (l : List (Int × Int)) (w : World) (hs : Rd w 2 n (.slice A n c) (prs .i64 l)) (hn : n = l.length) (hl : ¬ (n ≤ 1000 ∧ q ≤ 1000 ∧ ∀ p ∈ l, Ok16 p)) :
    Calls Tryd.prog 23 #[.agg #[.int .u32 tsn, .int .u32 win, .slice A n c, .slice B q d]] w fun z w' => z = .returned (.bool false) ∧ Below w.heap.size w w' := by
  by_cases hl' : 1000 < (n : Int)
  · clear hs hl hn
    go_enter Tryd.func23, Tryd.ntmps23
    go_wp2
    go_ret
    exact ⟨rfl, (Below.refl _ _).alloc (Nat.le_refl _) _⟩
  by_cases hq' : 1000 < (q : Int)
  · clear hs hl hn
    go_enter Tryd.func23, Tryd.ntmps23
    go_wp2
    go_ret
    exact ⟨rfl, (Below.refl _ _).alloc (Nat.le_refl _) _⟩
  have hbad : ∃ (j : Nat) (p : Int × Int), 0 ≤ j ∧ l[j]? = some p ∧ ¬ Ok16 p := by
    have h : ¬ ∀ p ∈ l, Ok16 p := fun h => hl ⟨by omega, by omega, h⟩
    simp only [Classical.not_forall] at h
    obtain ⟨p, hp, hb⟩ := h
    obtain ⟨j, hj⟩ := List.mem_iff_getElem?.1 hp
    exact ⟨j, p, Nat.zero_le _, hj, hb⟩
  have Hn := Lib.hid hn
  have HB := Lib.hid hbad
  obtain ⟨A', c', hv, hnc, hcm, hl0, h0, hc⟩ := hs
  injection hv with e1 e2 e3
  subst e1 e3
  have HC := Lib.hid hc
  have hln : (n : Int) ≤ 1000 := by omega
  clear hbad hl hn hl0 h0 hc e2
  unfold maxLen at hcm
  go_enter Tryd.func23, Tryd.ntmps23
  go_wp2
  go_loopw [18] (fun i wr => ∃ k : Nat, k ≤ n ∧ i = .int .i64 k ∧ Hid (∃ (j : Nat) (p : Int × Int), k ≤ j ∧ l[j]? = some p ∧ ¬ Ok16 p) ∧ Below w.heap.size w wr) (fun i _ => n - (intOf i).toNat)
  case atStart => exact ⟨0, Nat.zero_le _, rfl, HB, (Below.refl _ _).alloc (Nat.le_refl _) _⟩
  case round =>
    obtain ⟨k, hk, rfl, HB', hb⟩ := hrel
    have hbs := hb.size
    have Hb := Lib.hid hb
    have hlt : k < n := by
      obtain ⟨j, p, hj, hp, _⟩ := HB'.out
      have := (List.getElem?_eq_some_iff.1 hp).1
      have := Hn.out
      omega
    obtain ⟨g, o, rfl, hg⟩ := HC.out (by omega)
    have hlk : k < l.length := by have := Hn.out; omega
    have hx : l[k]? = some l[k] := List.getElem?_eq_getElem hlk
    generalize l[k] = x at hx
    obtain ⟨x1, x2⟩ := x
    obtain ⟨hc1, hc2⟩ := pr_cells hg hb hx
    by_cases hok : Ok16 (x1, x2)
    · obtain ⟨ha, hb2, ha', hb2'⟩ := hok
      have HB2 : Hid (∃ (j : Nat) (p : Int × Int), k + 1 ≤ j ∧ l[j]? = some p ∧ ¬ Ok16 p) := by
        obtain ⟨j, p, hj, hp, hq⟩ := HB'.out
        refine ⟨j, p, ?_, hp, hq⟩
        rcases Nat.lt_or_ge k j with h | h
        · omega
        · obtain rfl : j = k := by omega
          rw [hx] at hp
          injection hp with hp
          subst hp
          exact absurd ⟨ha, hb2, ha', hb2'⟩ hq
      simp only at ha hb2 ha' hb2'
      clear hx hg hb HB' HB
      go_wp2
      go_roundw
      case rel => exact ⟨k + 1, by omega, by go_num, HB2, Hb.out.alloc hbs _⟩
      case measure => simp [intOf]; omega
    · have h4 : x1 < 0 ∨ 65535 < x1 ∨ x2 < 0 ∨ 65535 < x2 := by
        unfold Ok16 at hok
        simp only at hok
        omega
      clear hx hg hb HB' HB hok
      rcases h4 with h | h | h | h
      all_goals
        go_wp2
        all_goals
          go_ret
          exact ⟨rfl, Hb.out.alloc hbs _⟩

set_option maxRecDepth 20000 in
set_option maxHeartbeats 1600000 in
theorem specsk_any (tsn win : Int) (A : Option Addr) (n c : Nat) (B : Option Addr) (q d : Nat) (g : List (Int × Int)) (l : List Int) (w : World) (hs : Rd w 2 n (.slice A n c) (prs .i64 g)) (hn : n = g.length) (hl : n ≤ 1000) (hp : ∀ p ∈ g, Ok16 p)
    (hs' : Rd w 1 q (.slice B q d) (u32s l)) (hq : q = l.length) (hl' : q ≤ 1000) (hz : ∀ z ∈ l, Ok32 z) (ht0 : 0 ≤ tsn) (ht : tsn ≤ 4294967295) (hw0 : 0 ≤ win) (hw : win ≤ 4294967295) :
    Calls Tryd.prog 26 #[.agg #[.int .u32 tsn, .int .u32 win, .slice A n c, .slice B q d]] w (RetSl w (chunk 3 0 (skbody tsn.toNat win.toNat g l))) := by
  have Hn := Lib.hid hn
  have HP := Lib.hid hp
  have Hq := Lib.hid hq
  have HZ := Lib.hid hz
  have hg := Row.new w 44 #[.int .u32 tsn, .int .u32 win, .slice A n c, .slice B q d]
  have hba := (Below.refl w.heap.size w).alloc (Nat.le_refl _) (.cells #[.int .u32 tsn, .int .u32 win, .slice A n c, .slice B q d] 44)
  obtain ⟨A', c', hv, hnc, hcm, hl0, h0, hc⟩ := hs
  injection hv with e1 e2 e3
  subst e1 e3
  have HC := Lib.hid hc
  clear hp hn hl0 h0 hc e2
  obtain ⟨B', d', hv, hqd, hdm, hl0, h0, hc⟩ := hs'
  injection hv with e1 e2 e3
  subst e1 e3
  have HD := Lib.hid hc
  clear hl0 h0 hc e2 hq hz
  unfold maxLen at hcm hdm
  go_enter Tryd.func26, Tryd.ntmps26
  go_upto_region 1 with fail
  generalize w.alloc (.cells #[.int .u32 tsn, .int .u32 win, .slice A n c, .slice B q d] 44) = W at hg hba ⊢
  generalize hGG : w.heap.size = G at hg ⊢
  have HGG := Lib.hid hGG
  have hk := Row.four (w := W.drew) hg
  have Hg := Lib.hid hg
  have Hba := Lib.hid hba
  have ht' : IntKind.i64.wrap tsn = tsn := by simp [IntKind.wrap, IntKind.bits, IntKind.signed]; omega
  have hw' : IntKind.i64.wrap win = win := by simp [IntKind.wrap, IntKind.bits, IntKind.signed]; omega
  clear hg hba hGG
  go_region_held3 (fun w' => w'.cell? ⟨G, 0, none⟩ = some (.int .u32 tsn) ∧ w'.cell? ⟨G, 1, none⟩ = some (.int .u32 win) ∧ w'.cell? ⟨G, 2, none⟩ = some (.slice A n c) ∧ w'.cell? ⟨G, 3, none⟩ = some (.slice B q d)) (first | (with_reducible exact hk) | (with_reducible exact k1) | (with_reducible exact k2) | (with_reducible exact k3) | (with_reducible exact k4) | (with_reducible exact k5) | exact Row.four (Row.alloc G4.out _))
    (first
      | (go_at_call_of 42 (Value.int IntKind.i64 tsn); refine (number_any tsn 4 _ ht0 (by omega) (by omega) (by omega)).mono ?_; rintro z w1 ⟨A1, n1, c1, rfl, hs1, hb1⟩; have Q1 := Lib.hid hs1; have B1 := Lib.hid hb1; have g1 := Hg.out.drew.below hb1 Hg.out.drew.lt; have G1 := Lib.hid g1; have k1 := g1.four; clear g1 hs1 hb1)
      | (go_at_call_of 42 (Value.int IntKind.i64 win); refine (number_any win 4 _ hw0 (by omega) (by omega) (by omega)).mono ?_; rintro z w2 ⟨A2, n2, c2, rfl, hs2, hb2⟩; have Q2 := Lib.hid hs2; have B2 := Lib.hid hb2; have g2 := G1.out.below hb2 G1.out.lt; have G2 := Lib.hid g2; have k2 := g2.four; clear g2 hs2 hb2)
      | (go_at_call_of 42 (Value.int IntKind.i64 (n : Int)); refine (number_any (n : Int) 2 _ (by omega) (by omega) (by omega) (by omega)).mono ?_; rintro z w3 ⟨A3, n3, c3, rfl, hs3, hb3⟩; have Q3 := Lib.hid hs3; have B3 := Lib.hid hb3; have g3 := G2.out.below hb3 G2.out.lt; have G3 := Lib.hid g3; have k3 := g3.four; clear g3 hs3 hb3)
      | (go_at_call_of 42 (Value.int IntKind.i64 (q : Int)); refine (number_any (q : Int) 2 _ (by omega) (by omega) (by omega) (by omega)).mono ?_; rintro z w4 ⟨A4, n4, c4, rfl, hs4, hb4⟩; have Q4 := Lib.hid hs4; have B4 := Lib.hid hb4; have g4 := G3.out.below hb4 G3.out.lt; have G4 := Lib.hid g4; have k4 := g4.four; clear g4 hs4 hb4)
      | (go_at_call 41; refine (joined_any _ [.slice A1 n1 c1, .slice A2 n2 c2, .slice A3 n3 c3, .slice A4 n4 c4] [be (Int.toNat 4) tsn.toNat, be (Int.toNat 4) win.toNat, be (Int.toNat 2) (n : Int).toNat, be (Int.toNat 2) (q : Int).toNat] _ (Rd.lit w4 22 [.slice A1 n1 c1, .slice A2 n2 c2, .slice A3 n3 c3, .slice A4 n4 c4] 4 rfl (by omega)) (.cons ((((Q1.out.below B2.out).below B3.out).below B4.out).alloc _) (.cons (((Q2.out.below B3.out).below B4.out).alloc _) (.cons ((Q3.out.below B4.out).alloc _) (.cons (Q4.out.alloc _) (Sls.nil _))))) (by simp [be_length]) (by simp)).mono ?_; rintro z w5 ⟨A5, n5, c5, rfl, hs5, hb5⟩; have Q5 := Lib.hid hs5; have B5 := Lib.hid hb5; have g5 := (G4.out.alloc _).below hb5 (G4.out.alloc _).lt; have G5 := Lib.hid g5; have k5 := g5.four; clear g5 hs5 hb5))
  have d0 := Hba.out.drew
  have d1 := below_step d0 d0.size B1.out
  have d2 := below_step d1 d1.size B2.out
  have d3 := below_step d2 d2.size B3.out
  have d4 := below_step d3 d3.size B4.out
  have d4a := d4.alloc d4.size (.cells [.slice A1 n1 c1, .slice A2 n2 c2, .slice A3 n3 c3, .slice A4 n4 c4].toArray 22)
  have D5 := Lib.hid (below_step d4a d4a.size B5.out)
  obtain ⟨hd, hhd⟩ : ∃ hd, hd = skhead tsn.toNat win.toNat n q := ⟨_, rfl⟩
  have e0 : [be (Int.toNat 4) tsn.toNat, be (Int.toNat 4) win.toNat, be (Int.toNat 2) (n : Int).toNat, be (Int.toNat 2) (q : Int).toNat].flatten = hd := by
    rw [hhd]; simp [skhead]
  have S5 := Q5.out
  rw [e0] at S5
  have HS5 : Hid (Sl w5 (.slice A5 n5 c5) (hd ++ sbytes (g.take 0))) := by simpa [sbytes] using Lib.hid S5
  have HH : Hid (hd.length = 12) := by show _ = _; rw [hhd, skhead_length]
  have Hhd := Lib.hid hhd
  obtain ⟨_, _, y2, y3⟩ := k5
  clear hk k1 k2 k3 k4 d0 d1 d2 d3 d4 d4a e0 S5 hhd ht' hw' Q1 Q2 Q3 Q4 Q5 B1 B2 B3 B4 B5 G1 G2 G3 G4
  go_wp2_with fail
  go_loopw [3, 29] (fun v i wr => ∃ k : Nat, k ≤ n ∧ i = .int .i64 k ∧ Hid (Sl wr v (hd ++ sbytes (g.take k))) ∧ Hid (Below w5.heap.size w5 wr)) (fun _ i _ => n - (intOf i).toNat)
  case atStart => exact ⟨0, Nat.zero_le _, rfl, HS5, Lib.hid (Below.refl _ _)⟩
  case round =>
    obtain ⟨k, hk, rfl, HS, HB⟩ := hrel
    have hbw : Below w.heap.size w wr := below_step D5.out D5.out.size HB.out
    by_cases hlt : k < n
    · obtain ⟨g0, o, rfl, hg⟩ := HC.out (by omega)
      have hlk : k < g.length := by have := Hn.out; omega
      have hx : g[k]? = some g[k] := List.getElem?_eq_getElem hlk
      obtain ⟨ha, hb2, ha', hb2'⟩ := HP.out _ (List.getElem_mem hlk)
      generalize g[k] = x at hx ha hb2 ha' hb2'
      obtain ⟨x1, x2⟩ := x
      simp only at ha hb2 ha' hb2'
      obtain ⟨hc1, hc2⟩ := pr_cells hg hbw hx
      have Hx := Lib.hid hx
      have hlen : (hd ++ sbytes (g.take k)).length ≤ 5000 := by rw [List.length_append, HH.out, sbytes_length]; simp; omega
      have Hlen := Lib.hid hlen
      obtain ⟨Au, nu, cu, hu⟩ : ∃ Au nu cu, u3 = Value.slice Au nu cu := by
        obtain ⟨Au, cu, hv, _⟩ := HS.out
        exact ⟨Au, _, cu, hv⟩
      subst hu
      clear hx hg hbw hlen y2 y3
      go_upto_region 5 with fail
      have hG := Row.new wr 50 #[.int .i64 x1, .int .i64 x2]
      have hSa := HS.out.alloc (.cells #[.int .i64 x1, .int .i64 x2] 50)
      have hBa := HB.out.alloc HB.out.size (.cells #[.int .i64 x1, .int .i64 x2] 50)
      generalize wr.alloc (.cells #[.int .i64 x1, .int .i64 x2] 50) = W1 at hG hSa hBa ⊢
      generalize wr.heap.size = gp at hG ⊢
      have HG := Lib.hid hG
      have HSa := Lib.hid hSa
      have HBa := Lib.hid hBa
      have hk2 : W1.drew.cell? ⟨gp, 0, none⟩ = some (.int .i64 x1) ∧ W1.drew.cell? ⟨gp, 1, none⟩ = some (.int .i64 x2) := Row.two (w := W1.drew) hG
      clear hG hSa hBa hc1 hc2
      go_region_held3 (fun w' => w'.cell? ⟨gp, 0, none⟩ = some (.int .i64 x1) ∧ w'.cell? ⟨gp, 1, none⟩ = some (.int .i64 x2)) (first | (with_reducible exact hk2) | (with_reducible exact kk1) | (with_reducible exact kk2) | (with_reducible exact kk5) | exact Row.two (Row.alloc G2.out _))
        (first
          | (go_at_call_of 42 (Value.int IntKind.i64 x1); refine (number_any x1 2 _ ha (by omega) (by omega) (by omega)).mono ?_; rintro z w1 ⟨A1, n1, c1, rfl, hs1, hb1⟩; have Q1 := Lib.hid hs1; have B1 := Lib.hid hb1; have g1 := HG.out.drew.below hb1 HG.out.drew.lt; have G1 := Lib.hid g1; have kk1 := g1.two; clear g1 hs1 hb1)
          | (go_at_call_of 42 (Value.int IntKind.i64 x2); refine (number_any x2 2 _ ha' (by omega) (by omega) (by omega)).mono ?_; rintro z w2 ⟨A2, n2, c2, rfl, hs2, hb2⟩; have Q2 := Lib.hid hs2; have B2 := Lib.hid hb2; have g2 := G1.out.below hb2 G1.out.lt; have G2 := Lib.hid g2; have kk2 := g2.two; clear g2 hs2 hb2)
          | (go_at_call 41; refine (joined_any _ [.slice Au nu cu, .slice A1 n1 c1, .slice A2 n2 c2] [hd ++ sbytes (g.take k), be (Int.toNat 2) x1.toNat, be (Int.toNat 2) x2.toNat] _ (Rd.lit w2 22 [.slice Au nu cu, .slice A1 n1 c1, .slice A2 n2 c2] 3 rfl (by omega)) (.cons (((HSa.out.drew.below B1.out).below B2.out).alloc _) (.cons ((Q1.out.below B2.out).alloc _) (.cons (Q2.out.alloc _) (Sls.nil _)))) (by have := Hlen.out; simp [be_length] at this ⊢; omega) (by simp)).mono ?_; rintro z w6 ⟨A6, n6, c6, rfl, hs6, hb6⟩; have Q6 := Lib.hid hs6; have B6 := Lib.hid hb6; have g6 := (G2.out.alloc _).below hb6 (G2.out.alloc _).lt; have kk5 := g6.two; clear g6 hs6 hb6))
      have e0 : [hd ++ sbytes (g.take k), be (Int.toNat 2) x1.toNat, be (Int.toNat 2) x2.toNat].flatten = hd ++ sbytes (g.take (k + 1)) := by
        rw [sbytes_take g k _ Hx.out]; simp
      have S6 := Q6.out
      rw [e0] at S6
      have HS6 := Lib.hid S6
      have d0 := HBa.out.drew
      have d1 := below_step d0 d0.size B1.out
      have d2 := below_step d1 d1.size B2.out
      have d3 := d2.alloc d2.size (.cells [.slice Au nu cu, .slice A1 n1 c1, .slice A2 n2 c2].toArray 22)
      have D6 := Lib.hid (below_step d3 d3.size B6.out)
      clear hk2 kk1 kk2 kk5 d0 d1 d2 d3 e0 S6 ha hb2 ha' hb2'
      go_wp2
      go_roundw
      case rel => exact ⟨k + 1, by omega, by go_num, HS6, D6⟩
      case measure => simp [intOf]; omega
    · obtain rfl : k = n := by omega
      obtain ⟨hd2, hhd2⟩ : ∃ hd2, hd2 = hd ++ sbytes g := ⟨_, rfl⟩
      have hS := HS.out
      rw [show g.take k = g by rw [Hn.out, List.take_length], ← hhd2] at hS
      have HS2 : Hid (Sl wr u3 (hd2 ++ dbytes (l.take 0))) := by simpa [dbytes] using Lib.hid hS
      have HH2 : Hid (hd2.length = 12 + 4 * k) := by show _ = _; rw [hhd2, List.length_append, HH.out, sbytes_length, ← Hn.out]
      have Hhd2 := Lib.hid hhd2
      have y3' : wr.cell? ⟨G, 3, none⟩ = some (.slice B q d) := (HB.out.cell (p := ⟨G, 3, none⟩) G5.out.lt).trans y3
      obtain ⟨Au, nu, cu, hu⟩ : ∃ Au nu cu, u3 = Value.slice Au nu cu := by
        obtain ⟨Au, cu, hv, _⟩ := HS.out
        exact ⟨Au, _, cu, hv⟩
      subst hu
      clear hS hhd2 HS hbw y2 y3 HS5
      go_wp2_with fail
      obtain ⟨wo, rfl⟩ : ∃ wo : World, wo = wr := ⟨_, rfl⟩
      go_loopw [3, 46] (fun v i wr => ∃ j : Nat, j ≤ q ∧ i = .int .i64 j ∧ Hid (Sl wr v (hd2 ++ dbytes (l.take j))) ∧ Hid (Below w5.heap.size w5 wr)) (fun _ i _ => q - (intOf i).toNat)
      case atStart => exact ⟨0, Nat.zero_le _, rfl, HS2, HB⟩
      case round =>
        clear y3' HS2 HB
        obtain ⟨j, hj, rfl, HS, HB⟩ := hrel
        have hbw : Below w.heap.size w wr := below_step D5.out D5.out.size HB.out
        obtain ⟨Au, nu, cu, hu⟩ : ∃ Au nu cu, u3 = Value.slice Au nu cu := by
          obtain ⟨Au, cu, hv, _⟩ := HS.out
          exact ⟨Au, _, cu, hv⟩
        subst hu
        by_cases hltq : j < q
        · obtain ⟨g0, o, rfl, hg⟩ := HD.out (by omega)
          have hlk : j < l.length := by have := Hq.out; omega
          have hx : l[j]? = some l[j] := List.getElem?_eq_getElem hlk
          obtain ⟨ha, hb2⟩ := HZ.out _ (List.getElem_mem hlk)
          generalize l[j] = x at hx ha hb2
          have hc1 : wr.cell? ⟨g0, o + j, none⟩ = some (.int .u32 x) := by
            have h1 := hg j _ (u32s_get l j x hx)
            exact (hbw.cell (World.block_lt_of_cell? w _ h1)).trans h1
          have Hx := Lib.hid hx
          have hlen : (hd2 ++ dbytes (l.take j)).length ≤ 10000 := by rw [List.length_append, HH2.out, dbytes_length]; simp; omega
          have Hlen := Lib.hid hlen
          have hxw : IntKind.i64.wrap x = x := by simp [IntKind.wrap, IntKind.bits, IntKind.signed]; omega
          clear hx hg hbw hlen
          go_wp2_with fail
          refine (number_any x 4 _ ha (by omega) (by omega) (by omega)).mono ?_
          rintro e w6 ⟨A6, n6, c6, rfl, hs6, hb6⟩
          have HS6 := Lib.hid (HS.out.below hb6)
          have Q6 := Lib.hid hs6
          have HB6 := Lib.hid (below_step HB.out HB.out.size hb6)
          clear hs6 hb6 hxw hc1
          go_wp2_with fail
          refine (joined_any _ [.slice Au nu cu, .slice A6 n6 c6] [hd2 ++ dbytes (l.take j), be (Int.toNat 4) x.toNat] _ (Rd.lit w6 22 [.slice Au nu cu, .slice A6 n6 c6] 2 rfl (by omega)) (.cons (HS6.out.alloc _) (.cons (Q6.out.alloc _) (Sls.nil _))) (by have := Hlen.out; simp [be_length] at this ⊢; omega) (by simp)).mono ?_
          rintro e w7 ⟨A7, n7, c7, rfl, hs7, hb7⟩
          have e0 : [hd2 ++ dbytes (l.take j), be (Int.toNat 4) x.toNat].flatten = hd2 ++ dbytes (l.take (j + 1)) := by
            rw [dbytes_take l j _ Hx.out]; simp
          rw [e0] at hs7
          have HS7 := Lib.hid hs7
          have d3 := HB6.out.alloc HB6.out.size (.cells [.slice Au nu cu, .slice A6 n6 c6].toArray 22)
          have HB7 := Lib.hid (below_step d3 d3.size hb7)
          clear hs7 hb7 e0 d3
          go_wp2
          go_roundw
          case rel => exact ⟨j + 1, by omega, by go_num, HS7, HB7⟩
          case measure => simp [intOf]; omega
        · obtain rfl : j = q := by omega
          have hS := HS.out
          have e0 : hd2 ++ dbytes (l.take j) = skbody tsn.toNat win.toNat g l := by
            rw [show l.take j = l by rw [Hq.out, List.take_length], Hhd2.out, Hhd.out, Hn.out, Hq.out]
            simp [skbody]
          rw [e0] at hS
          have HS2 := Lib.hid hS
          have Hbw := Lib.hid hbw
          clear hS hbw e0
          go_wp2_with fail
          refine (chunk_any 3 0 _ _ _ (by omega) (by omega) (by omega) (by omega) HS2.out (by rw [skbody_length]; have := Hn.out; have := Hq.out; omega)).mono ?_
          rintro e w7 ⟨A7, n7, c7, rfl, hs7, hb7⟩
          have Hs7 := Lib.hid hs7
          have Hb7 := Lib.hid (below_step Hbw.out Hbw.out.size hb7)
          clear hs7 hb7
          go_wp2
          go_ret
          exact ⟨A7, n7, c7, rfl, Hs7.out, Hb7.out⟩
end Go.Proofs.YtnaihmmfnffejaaDoor
