/- The contract of spec.Received. Conditions: the numbers are 1 .. 1000; at most 1000 of them. -/
import Derived.Test.YtbmnpadpjbcljaaDoorRvV
namespace Go.Proofs.YtbmnpadpjbcljaaDoor
open Go.RowKit Go.Lib Go.Maps

theorem own_succ {w : World} {B : Nat} {e : TypeId} {size k : Nat} {v : Value} {xs : List Value} (h : w.ownsRow B e size v (k + 1) xs) : ∃ g cap, v = .slice (some ⟨g, 0, none⟩) (k + 1) cap := by
  rcases h.2 with ⟨_, h0⟩ | ⟨g, cap, cur, rfl, _⟩
  · cases h0
  · exact ⟨g, cap, rfl⟩

theorem MapAt.run {w : World} {b n x : Nat} {p : Nat → Bool} (h : MapAt w b n p) (hx : x ≤ 1000000) : (Instr.lookup 34 (.map (some b)) (.int .i64 (x : Int)) false).run Tryd.prog w = .ok (.bool (p x)) w := by
  obtain ⟨D, h1, h2, h3⟩ := h
  obtain ⟨v, ps, hrun, hv⟩ := h1.lookup lawI Tryd.underlying34 (zeroB w) (plainElem_bool Tryd.underlying4 false) (key_mk hx)
  obtain ⟨c, rfl, hc⟩ := plainElem_bool_inv Tryd.underlying4 hv
  rw [h3 x hx] at hc
  have e : c = p x := by
    simp only [Prod.mk.injEq, DataW.lit.injEq, Lit.bool.injEq] at hc
    exact hc.1.symm
  rw [hrun, e]

/-- What spec.Received hands back. -/
def SpGot (first : Nat) (l : List Nat) (w : World) (e : Ending) (w' : World) : Prop :=
  ∃ c A cap A2 cap2, Pre (came l l.length) c ∧ e = .returned (.agg #[.int .u32 (tsnOf first c : Nat), .int .u32 0, .slice A (allRuns l c).length cap, .slice A2 (twice l l.length).length cap2]) ∧
    Rd w' 2 (allRuns l c).length (.slice A (allRuns l c).length cap) (gcells .i64 (allRuns l c)) ∧
    Rd w' 1 (twice l l.length).length (.slice A2 (twice l l.length).length cap2) (dcs first (twice l l.length)) ∧ Below w.heap.size w w'

def St1 (first : Nat) (l : List Nat) (k : Nat) (w wr : World) : Prop := ∃ du, SpSt first w wr k (came l k) (.int .u32 0) (.slice none 0 0) du [] (twice l k)

set_option maxRecDepth 20000 in
set_option maxHeartbeats 3200000 in
theorem specrcv_any (first : Nat) (l : List Nat) (v : Value) (w : World) (hf : first < 4294967296) (h : Rd w 1 l.length v (ics l)) (hl : l.length ≤ 1000) (h1 : ∀ x ∈ l, 1 ≤ x ∧ x ≤ 1000) :
    Calls Tryd.prog 4 #[.int .u32 (first : Int), v] w (SpGot first l w) := by
  have hmm := @run_makeMap Tryd.prog
  obtain ⟨n, hn⟩ : ∃ n, n = l.length := ⟨_, rfl⟩
  rw [← hn] at h hl
  obtain ⟨A, cp, rfl, hnc, hcm, hl0, h0, hc⟩ := h
  have HC := Lib.hid hc
  have Hn := Lib.hid hn
  have H1 := Lib.hid h1
  clear hc h0 hl0 hn h1
  unfold maxLen at hcm
  go_enter Tryd.func4, Tryd.ntmps4
  go_wp2_with fail
  have HS0 : Hid (St1 first l 0 w (((w.alloc (.cells #[.int .u32 0, .int .u32 0, .slice none 0 0, .slice none 0 0] 27)).alloc (.map #[] 0)).alloc (.cells #[.int .u32 0, .int .u32 0, .slice none 0 0, .slice none 0 0] 27))) := by
    have z1 : (w.alloc (.cells #[.int .u32 0, .int .u32 0, .slice none 0 0, .slice none 0 0] 27)).heap.size = w.heap.size + 1 := World.size_alloc _ _
    have z2 : ((w.alloc (.cells #[.int .u32 0, .int .u32 0, .slice none 0 0, .slice none 0 0] 27)).alloc (.map #[] 0)).heap.size = w.heap.size + 2 := by rw [World.size_alloc, z1]
    have m := MapAt.made (w.alloc (.cells #[.int .u32 0, .int .u32 0, .slice none 0 0, .slice none 0 0] 27))
    rw [z1] at m
    have b0 := (Below.refl w.heap.size w).alloc (Nat.le_refl _) (.cells #[.int .u32 0, .int .u32 0, .slice none 0 0, .slice none 0 0] 27)
    have b1 := b0.alloc (by omega) (.map #[] 0)
    have b2 := b1.alloc (by omega) (.cells #[.int .u32 0, .int .u32 0, .slice none 0 0, .slice none 0 0] 27)
    have e0 : came l 0 = fun _ => false := by funext d; simp [came]
    refine Lib.hid ⟨.slice none 0 0, by rw [e0]; exact m.alloc _, Row.new' _ _ _ (by omega), World.ownsRow_nil _ _ _ _, World.ownsRow_nil _ _ _ _, ((Row.new w _ _).alloc _).alloc _, b2, by rw [World.size_alloc]; omega⟩
  go_loopw [7, 16] (fun top i wr => ∃ k : Nat, k ≤ n ∧ i = .int .i64 (k : Int) ∧ top = .int .i64 (topOf l k : Nat) ∧ Hid (St1 first l k w wr)) (fun _ i _ => n - (intOf i).toNat)
  case atStart => exact ⟨0, Nat.zero_le _, rfl, rfl, HS0⟩
  case round =>
    clear HS0
    obtain ⟨k, hk, rfl, rfl, HS⟩ := hrel
    by_cases hlt : k < n
    · obtain ⟨g, o, rfl, hg⟩ := HC.out (by omega)
      have hlk : k < l.length := by have := Hn.out; omega
      have hx : l[k]? = some l[k] := List.getElem?_eq_getElem hlk
      obtain ⟨x1, x2⟩ := H1.out _ (List.getElem_mem hlk)
      generalize l[k] = x at hx x1 x2
      obtain ⟨du, hS⟩ := HS.out
      have hcx : wr.cell? ⟨g, o + k, none⟩ = some (.int .i64 (x : Int)) := by
        have h1 := hg k (.int .i64 (x : Int)) (by simp [ics, hx])
        exact (hS.below.cell (World.block_lt_of_cell? w _ h1)).trans h1
      have y3 : wr.cell? ⟨w.heap.size + 1 + 1, 3, none⟩ = some du := by have h := hS.out.four.2.2.2; exact h
      have f3 : wr.frozen? ⟨w.heap.size + 1 + 1, 3, none⟩ = false := hS.out.frozen 3
      have hsz := hS.size
      obtain ⟨tp, htp⟩ : ∃ tp, tp = topOf l k := ⟨_, rfl⟩
      have htn := topOf_new hx
      rw [← htp] at htn ⊢
      have htl : tp ≤ 1000 := by rw [htp]; exact topOf_le (fun d hd => (H1.out d hd).2) k
      have Htn := Lib.hid htn
      have Hx := Lib.hid hx
      have Hg := Lib.hid hg
      have V := Lib.hid (num_val first x)
      have HSS := Lib.hid hS
      clear hx hg hS htp htn HS
      cases hcm : came l k x with
      | true =>
        have HCM := Lib.hid hcm
        clear hcm
        have htl2 := twice_le l k
        obtain ⟨T, hT⟩ : ∃ T, T = twice l k := ⟨_, rfl⟩
        rw [← hT] at HSS htl2
        obtain ⟨m, hm⟩ : ∃ m, m = T.length := ⟨_, rfl⟩
        have HT := Lib.hid hT
        have Hm := Lib.hid hm
        have hm1 : m ≤ 1000 := by omega
        clear hT hm htl2
        go_wp2_with (first | (at_lookup; refine wpList_tell HSS.out.map (by omega : x ≤ 1000000) rfl _ _ rfl rfl rfl ?_; rw [HCM.out]) | (at_builtin; rw [V.out]; refine wpList_append_rd _ rfl _ _ rfl uT (w.heap.size + 3) du m (dcs first T) rfl ((by rw [Hm.out]; exact HSS.out.du : wr.ownsRow (w.heap.size + 3) 22 1 du m (dcs first T)).alloc _) _ 1 [_] rfl (Rd.lit wr 22 [.int .u32 (tsnOf first x : Nat)] 1 rfl (by omega)) ?c1 ?c2 ?c3 ?c4 ?_))
        case c1 => simp [Value.oneCell']
        case c2 => unfold maxLen; omega
        case c3 => omega
        case c4 => rw [World.size_alloc]; omega
        intro v5 w5 hown5 hg5 _
        obtain ⟨A5, c5, e5⟩ := own_slice hown5
        subst e5
        have hS6 := (HSS.out.alloc (.cells #[.int .u32 (tsnOf first x : Nat)] 22)).dup (by rw [← Hm.out]; exact hown5) hg5
        have hr5 := (HSS.out.out.alloc (.cells #[.int .u32 (tsnOf first x : Nat)] 22)).grown hg5 (own_apart HSS.out.du (by omega)).symm
        have y5 : w5.cell? ⟨w.heap.size + 1 + 1, 3, none⟩ = some du := hr5.four.2.2.2
        have f5 : w5.frozen? ⟨w.heap.size + 1 + 1, 3, none⟩ = false := hr5.frozen 3
        have HS6 := Lib.hid hS6
        clear hS6 hr5 hown5 hg5 y3 f3
        go_wp2_with (at_mapUpdate; refine wpList_mark HS6.out.map (by omega : x ≤ 1000000) (by unfold maxLen; omega) rfl _ _ _ rfl rfl rfl rfl ?_; intro w9 hM9 hg9)
        refine ⟨⟨k + 1, by omega, by go_num, congrArg (Value.int .i64) (by rw [Htn.out]; split <;> omega), Lib.hid ⟨.slice A5 (m + 1) c5, ?_⟩⟩, by simp [intOf]; omega⟩
        have h9 := HS6.out.mark hM9 hg9
        rw [twice_yes Hx.out HCM.out, ← HT.out, show came l (k + 1) = fun y => came l k y || decide (y = x) from funext fun y => came_succ Hx.out y]
        exact h9
      | false =>
        have HCM := Lib.hid hcm
        clear hcm
        go_wp2_with (first | (at_lookup; refine wpList_tell HSS.out.map (by omega : x ≤ 1000000) rfl _ _ rfl rfl rfl ?_; rw [HCM.out]) | (at_mapUpdate; refine wpList_mark HSS.out.map (by omega : x ≤ 1000000) (by unfold maxLen; omega) rfl _ _ _ rfl rfl rfl rfl ?_; intro w9 hM9 hg9))
        refine ⟨⟨k + 1, by omega, by go_num, congrArg (Value.int .i64) (by rw [Htn.out]; split <;> omega), Lib.hid ⟨du, ?_⟩⟩, by simp [intOf]; omega⟩
        have h9 := HSS.out.mark hM9 hg9
        rw [twice_no Hx.out HCM.out, show came l (k + 1) = fun y => came l k y || decide (y = x) from funext fun y => came_succ Hx.out y]
        exact h9
    · obtain rfl : k = n := by omega
      obtain ⟨du, hS⟩ := HS.out
      have HSS := Lib.hid hS
      have hsz := hS.size
      clear hS HS
      go_wp2_with fail
      go_loopw [10] (fun v10 wi => ∃ c : Nat, c ≤ 1000 ∧ v10 = .int .i64 (c : Int) ∧ wi = wr ∧ Hid (∀ i, 1 ≤ i → i ≤ c → came l k i = true)) (fun v10 _ => 1001 - (intOf v10).toNat)
      case atStart => exact ⟨0, by omega, rfl, rfl, Lib.hid (fun i a b => by omega)⟩
      case round =>
        obtain ⟨c, hc, rfl, rfl, HI⟩ := hrel
        cases hcm : came l k (c + 1) with
        | true =>
          have HCM := Lib.hid hcm
          have hc2 := (came_le H1.out hcm).2
          clear hcm
          go_wp2_with (at_lookup; refine wpList_tell HSS.out.map (by omega : c + 1 ≤ 1000000) rfl _ _ rfl rfl (by first | rfl | exact congrArg (Value.int .i64) (by omega)) ?_; rw [HCM.out])
          refine ⟨⟨c + 1, by omega, by go_num, by trivial, Lib.hid (fun i a b => ?_)⟩, by simp [intOf]; omega⟩
          rcases Nat.lt_or_ge c i with h3 | h3
          · obtain rfl : i = c + 1 := by omega
            exact HCM.out
          · exact HI.out i a h3
        | false =>
          have HCM := Lib.hid hcm
          clear hcm
          have y0 : wr.cell? ⟨w.heap.size + 1 + 1, 0, none⟩ = some (.int .u32 0) := by have h := HSS.out.out.four.1; exact h
          have f0 : wr.frozen? ⟨w.heap.size + 1 + 1, 0, none⟩ = false := HSS.out.out.frozen 0
          go_wp2_with (at_lookup; refine wpList_tell HSS.out.map (by omega : c + 1 ≤ 1000000) rfl _ _ rfl rfl (by first | rfl | exact congrArg (Value.int .i64) (by omega)) ?_; rw [HCM.out])
          rw [num_val first c]
          have HS3 := Lib.hid (HSS.out.ts (ts' := .int .u32 (tsnOf first c : Nat)))
          have hct : c ≤ topOf l k := by
            rcases Nat.eq_zero_or_pos c with h0 | h0
            · omega
            · exact topOf_ge (HI.out c h0 (Nat.le_refl _))
          obtain ⟨tp, htp⟩ : ∃ tp, tp = topOf l k := ⟨_, rfl⟩
          rw [← htp] at hct ⊢
          have Htp := Lib.hid htp
          have htl : tp ≤ 1000 := by rw [htp]; exact topOf_le (fun d hd => (H1.out d hd).2) k
          clear htp HSS y0 f0
          go_loopw [11] (fun v11 wi => ∃ j : Nat, c + j ≤ tp ∧ v11 = .int .i64 ((c + 1 + j : Nat) : Int) ∧ ∃ ga, Hid (SpSt first w wi k (came l k) (.int .u32 (tsnOf first c : Nat)) ga du (runs (came l k) c j) (twice l k))) (fun v11 _ => tp + 1 - (intOf v11).toNat)
          case atStart => exact ⟨0, by omega, by go_num, _, HS3⟩
          case round =>
            clear HS3
            obtain ⟨j, hj, rfl, ga, HS⟩ := hrel
            obtain ⟨x, hx⟩ : ∃ x, x = c + 1 + j := ⟨_, rfl⟩
            rw [← hx]
            have hsz := HS.out.size
            have y2 : wr.cell? ⟨w.heap.size + 1 + 1, 2, none⟩ = some ga := HS.out.out.four.2.2.1
            have f2 : wr.frozen? ⟨w.heap.size + 1 + 1, 2, none⟩ = false := HS.out.out.frozen 2
            by_cases hlt : x ≤ tp
            · have HX := Lib.hid hx
              clear hx
              have hx6 : x ≤ 1000000 := by omega
              have hx7 : x - 1 ≤ 1000000 := by omega
              have hx8 : 1 ≤ x := by have := HX.out; omega
              have r1 := HS.out.map.run hx6
              have r2 := HS.out.map.run hx7
              rw [show (((x - 1 : Nat)) : Int) = (x : Int) - 1 by omega] at r2
              have hl2 := runs_le (p := came l k) (c := c) (k := j)
              cases hcx : came l k x with
              | false =>
                rw [hcx] at r1
                have HCX := Lib.hid hcx
                clear hcx r2
                go_wp2_with fail
                have hx := HX.out
                refine ⟨⟨j + 1, by omega, congrArg (Value.int .i64) (by omega), ga, ?_⟩, by simp [intOf]; omega⟩
                have h := HCX.out
                rw [hx, show c + 1 + j = c + (j + 1) by omega] at h
                rw [runs_no h]
                exact HS
              | true =>
                rw [hcx] at r1
                have HCX := Lib.hid hcx
                clear hcx
                cases hcp : came l k (x - 1) with
                | false =>
                  rw [hcp] at r2
                  have HCP := Lib.hid hcp
                  clear hcp
                  have v1 : Hid ((x : Int) - (c : Int) = ((j + 1 : Nat) : Int)) := Lib.hid (by have := HX.out; omega)
                  obtain ⟨R, hR⟩ : ∃ R, R = runs (came l k) c j := ⟨_, rfl⟩
                  rw [← hR] at HS hl2
                  have HR := Lib.hid hR
                  obtain ⟨m, hm⟩ : ∃ m, m = R.length := ⟨_, rfl⟩
                  rw [← hm] at hl2
                  have Hm := Lib.hid hm
                  clear hm hR
                  go_wp2_with (at_builtin; rw [v1.out]; refine wpList_append_rd _ rfl _ _ rfl p2T (w.heap.size + 3) ga m (gcells .i64 R) rfl ((by rw [Hm.out]; exact HS.out.ga : wr.ownsRow (w.heap.size + 3) 32 2 ga m (gcells .i64 R)).alloc _) _ 1 [_, _] rfl (Rd.lit2 wr 32 (.int .i64 ((j + 1 : Nat) : Int)) (.int .i64 ((j + 1 : Nat) : Int)) rfl) ?c1 ?c2 ?c3 ?c4 ?_)
                  case c1 => simp [Value.oneCell']
                  case c2 => unfold maxLen; omega
                  case c3 => omega
                  case c4 => rw [World.size_alloc]; omega
                  intro v5 w5 hown5 hg5 _
                  obtain ⟨A5, c5, e5⟩ := own_slice hown5
                  subst e5
                  have hS6 := (HS.out.alloc (.cells #[.int .i64 ((j + 1 : Nat) : Int), .int .i64 ((j + 1 : Nat) : Int)] 32)).gap (a := j + 1) (b := j + 1) (by rw [← Hm.out]; exact hown5) hg5
                  have hr5 := (HS.out.out.alloc (.cells #[.int .i64 ((j + 1 : Nat) : Int), .int .i64 ((j + 1 : Nat) : Int)] 32)).grown hg5 (own_apart HS.out.ga (by omega)).symm
                  have y5 : w5.cell? ⟨w.heap.size + 1 + 1, 2, none⟩ = some ga := hr5.four.2.2.1
                  have f5 : w5.frozen? ⟨w.heap.size + 1 + 1, 2, none⟩ = false := hr5.frozen 2
                  have HS6 := Lib.hid hS6
                  clear hS6 hr5 hown5 hg5 y2 f2
                  go_wp2_with fail
                  have hx := HX.out
                  refine ⟨⟨j + 1, by omega, congrArg (Value.int .i64) (by omega), .slice A5 (m + 1) c5, ?_⟩, by simp [intOf]; omega⟩
                  have h := HCX.out
                  have h' := HCP.out
                  rw [hx, show c + 1 + j = c + (j + 1) by omega] at h
                  rw [hx, show c + 1 + j - 1 = c + j by omega] at h'
                  rw [runs_new h (.inr h'), ← HR.out]
                  exact HS6
                | true =>
                  rw [hcp] at r2
                  have HCP := Lib.hid hcp
                  clear hcp
                  have v1 : Hid ((x : Int) - (c : Int) = ((j + 1 : Nat) : Int)) := Lib.hid (by have := HX.out; omega)
                  have hj0 : 0 < j := by
                    rcases Nat.eq_zero_or_pos j with h0 | h0
                    · have h := HCX.out
                      rw [HX.out, h0, Nat.add_zero, HCM.out] at h
                      cases h
                    · exact h0
                  have hp1 : came l k (c + j) = true := by
                    have h' := HCP.out
                    rw [HX.out, show c + 1 + j - 1 = c + j by omega] at h'
                    exact h'
                  have hp2 : came l k (c + (j + 1)) = true := by
                    have h' := HCX.out
                    rw [HX.out, show c + 1 + j = c + (j + 1) by omega] at h'
                    exact h'
                  obtain ⟨L, a, hLa⟩ := runs_last hj0 hp1
                  have hmore := runs_more hp2 hj0 hp1
                  rw [hLa, setLast_snoc] at hmore
                  have hS5 := HS.out
                  rw [hLa] at hl2
                  rw [hLa] at hS5
                  obtain ⟨m, hm⟩ : ∃ m, m = L.length := ⟨_, rfl⟩
                  have hga := hS5.ga
                  rw [List.length_append, List.length_singleton, ← hm] at hga hl2
                  obtain ⟨g, cg, eg⟩ := own_succ hga
                  subst eg
                  have yc := World.ownsRow.cellAt hga (m * 2 + 1) (by omega)
                  have yc' : wr.cell? ⟨g, m * 2 + 1, none⟩ = some (.int .i64 (j : Int)) := by
                    rw [yc, gcells_snoc, List.getElem?_append_right (by rw [gcells_length]; omega), gcells_length, hm, show L.length * 2 + 1 - L.length * 2 = 1 by omega]
                    rfl
                  have fc := World.ownsRow.frozenAt hga (m * 2 + 1)
                  have hS6 := (by rw [hm] at hS5; exact hS5 : SpSt first w wr k (came l k) (.int .u32 (tsnOf first c : Nat)) (.slice (some ⟨g, 0, none⟩) (L.length + 1) cg) du (L ++ [(a, j)]) (twice l k)).last (e := j + 1)
                  rw [← hmore, ← hm] at hS6
                  have HS6 := Lib.hid hS6
                  clear hS6 hS5 hga yc hmore hLa hp1 hp2 hm HS
                  go_wp2_with fail
                  rw [v1.out]
                  have hx := HX.out
                  refine ⟨⟨j + 1, by omega, congrArg (Value.int .i64) (by omega), .slice (some ⟨g, 0, none⟩) (m + 1) cg, ?_⟩, by simp [intOf]; omega⟩
                  exact HS6
            · obtain rfl : tp = c + j := by omega
              obtain ⟨y0, y1, y2', y3⟩ : wr.cell? ⟨w.heap.size + 1 + 1, 0, none⟩ = some (.int .u32 (tsnOf first c : Nat)) ∧ wr.cell? ⟨w.heap.size + 1 + 1, 1, none⟩ = some (.int .u32 0) ∧ wr.cell? ⟨w.heap.size + 1 + 1, 2, none⟩ = some ga ∧ wr.cell? ⟨w.heap.size + 1 + 1, 3, none⟩ = some du := HS.out.out.four
              obtain ⟨z0, z1, z2, z3⟩ := HS.out.res.four
              have f0' := HS.out.res.frozen 0
              have f1' := HS.out.res.frozen 1
              have f2' := HS.out.res.frozen 2
              have f3' := HS.out.res.frozen 3
              obtain ⟨Ag, cg, eg⟩ := own_slice HS.out.ga
              obtain ⟨Ad, cd, ed⟩ := own_slice HS.out.du
              obtain ⟨ng, hng⟩ : ∃ ng, ng = (runs (came l k) c j).length := ⟨_, rfl⟩
              obtain ⟨nd, hnd⟩ : ∃ nd, nd = (twice l k).length := ⟨_, rfl⟩
              rw [← hng] at eg
              rw [← hnd] at ed
              have HNG := Lib.hid hng
              have HND := Lib.hid hnd
              clear hng hnd
              have hG := (Rd.of_own HS.out.ga).only' (only_set4 wr w.heap.size (.int .u32 (tsnOf first c : Nat)) (.int .u32 0) ga du) (fun _ => own_far HS.out.ga (by omega))
              have hD := (Rd.of_own HS.out.du).only' (only_set4 wr w.heap.size (.int .u32 (tsnOf first c : Nat)) (.int .u32 0) ga du) (fun _ => own_far HS.out.du (by omega))
              have hR := HS.out.res.set4 (.int .u32 (tsnOf first c : Nat)) (.int .u32 0) ga du
              have hB := below_only HS.out.below HS.out.below.size (only_set4 wr w.heap.size (.int .u32 (tsnOf first c : Nat)) (.int .u32 0) ga du) (Nat.le_refl _)
              have HG := Lib.hid hG
              have HD := Lib.hid hD
              have HR := Lib.hid hR
              have HB := Lib.hid hB
              clear hG hD hR hB
              subst eg ed
              go_wp2
              refine bodyPost_ret (results_cell_row rfl _ _ w.heap.size _ _ (0, 0) _ rfl HR.out Tryd.underlying27 rfl sk_info) rfl ?_
              have hpre : Pre (came l k) c := ⟨HI.out, HCM.out⟩
              have e1 : allRuns l c = runs (came l k) c j := by
                have h := Htp.out
                unfold allRuns
                rw [← Hn.out, ← h, show c + j - c = j by omega]
              have hG := HG.out
              have hD := HD.out
              refine ⟨c, Ag, cg, Ad, cd, by rw [← Hn.out]; exact hpre, by rw [e1, ← Hn.out, ← HNG.out, ← HND.out], ?_, ?_, HB.out⟩
              · rw [e1, ← HNG.out]
                rw [← HNG.out] at hG
                exact hG
              · rw [← Hn.out, ← HND.out]
                rw [← HND.out] at hD
                exact hD
end Go.Proofs.YtbmnpadpjbcljaaDoor
