/- The contract of impl.Received. Conditions: the numbers are 1 .. 1000; at most 1000 of them. -/
import Derived.Test.YtbmnpadpjbcljaaDoorRvL
namespace Go.Proofs.YtbmnpadpjbcljaaDoor
open Go.RowKit Go.Lib

theorem sk_info : (Tryd.prog.info? 27).map (·.size) = some 4 := by kernel_rfl
theorem Row.set4 {w : World} {g : Nat} {t : TypeId} {b0 b1 b2 b3 : Value} (h : Row w g t [b0, b1, b2, b3]) (a0 a1 a2 a3 : Value) : Row ((((w.setCell ⟨g, 0, none⟩ a0).setCell ⟨g, 1, none⟩ a1).setCell ⟨g, 2, none⟩ a2).setCell ⟨g, 3, none⟩ a3) g t [a0, a1, a2, a3] := (((h.set 0 a0).set 1 a1).set 2 a2).set 3 a3
theorem only_set4 (w : World) (g : Nat) (a0 a1 a2 a3 : Value) : w.grownBy ((((w.setCell ⟨g, 0, none⟩ a0).setCell ⟨g, 1, none⟩ a1).setCell ⟨g, 2, none⟩ a2).setCell ⟨g, 3, none⟩ a3) (some g) := only_set (only_set (only_set (only_set (only_refl w (some g)) 0 a0) 1 a1) 2 a2) 3 a3
theorem Row.four {w : World} {g : Nat} {t : TypeId} {a0 a1 a2 a3 : Value} (h : Row w g t [a0, a1, a2, a3]) : w.cell? ⟨g, 0, none⟩ = some a0 ∧ w.cell? ⟨g, 1, none⟩ = some a1 ∧ w.cell? ⟨g, 2, none⟩ = some a2 ∧ w.cell? ⟨g, 3, none⟩ = some a3 := by
  simp only [h.cell]
  exact ⟨rfl, rfl, rfl, rfl⟩

/-- The runs behind the numbers in order, after all numbers. -/
def allRuns (l : List Nat) (c : Nat) : List (Nat × Nat) := runs (came l l.length) c (topOf l l.length - c)
theorem allRuns_ok {l : List Nat} {c : Nat} (h : ∀ x ∈ l, 1 ≤ x ∧ x ≤ 1000) : (allRuns l c).length ≤ 1000 ∧ ∀ p ∈ gI (allRuns l c), 0 ≤ p.1 ∧ p.1 ≤ 65535 ∧ 0 ≤ p.2 ∧ p.2 ≤ 65535 := by
  have ht := topOf_le (l := l) (m := 1000) (fun d hd => (h d hd).2) l.length
  refine ⟨Nat.le_trans runs_le (by omega), fun p hp => ?_⟩
  obtain ⟨q, hq, rfl⟩ := List.mem_map.1 hp
  obtain ⟨h1, h2⟩ := runs_bound q hq
  simp only
  omega

/-- What impl.Received hands back. -/
def RcGot (first : Nat) (l : List Nat) (w : World) (e : Ending) (w' : World) : Prop :=
  ∃ c A cap A2 cap2, Pre (came l l.length) c ∧ e = .returned (.tuple #[.agg #[.int .u32 (tsnOf first c : Nat), .int .u32 0, .slice A (allRuns l c).length cap, .slice A2 (twice l l.length).length cap2], .bool true]) ∧
    Rd w' 2 (allRuns l c).length (.slice A (allRuns l c).length cap) (prs .i64 (gI (allRuns l c))) ∧
    Rd w' 1 (twice l l.length).length (.slice A2 (twice l l.length).length cap2) (dcs first (twice l l.length)) ∧ Below w.heap.size w w'

set_option maxRecDepth 20000 in
set_option maxHeartbeats 1600000 in
theorem implrcv_any (first : Nat) (l : List Nat) (v : Value) (w : World) (hf : first < 4294967296) (h : Rd w 1 l.length v (dcs first l)) (hl : l.length ≤ 1000) (h1 : ∀ x ∈ l, 1 ≤ x ∧ x ≤ 1000) (hT : TabAt w) :
    Calls Tryd.prog 5 #[.int .u32 (first : Int), v] w (RcGot first l w) := by
  have H := Lib.hid h
  have H1 := Lib.hid h1
  have HT := Lib.hid hT
  have Hl := Lib.hid hl
  clear h h1 hT hl
  go_enter Tryd.func5, Tryd.ntmps5
  go_wp2_with (at_builtin; refine wpList_append_rd _ rfl _ _ rfl uT (w.heap.size + 1) (.slice none 0 0) 0 [] rfl (World.ownsRow_nil _ _ _ _) v l.length (dcs first l) rfl (H.out.alloc _) (dcs_one _ _) ?c2 ?c3 ?c4 ?_)
  case c2 => have := Hl.out; unfold maxLen; omega
  case c3 => have := Hl.out; omega
  case c4 => rw [World.size_alloc]; omega
  intro v1 w1 hown1 hg1 _
  have hb0 := (Below.refl w.heap.size w).alloc (Nat.le_refl _) (.cells #[.int .u32 0, .int .u32 0, .slice none 0 0, .slice none 0 0] 27)
  have hb1 : Below w.heap.size w w1 := hb0.grown hg1 hb0.size (fun j hj => by cases hj)
  have hd := Row.new w 27 #[.int .u32 0, .int .u32 0, .slice none 0 0, .slice none 0 0]
  have D1 := Lib.hid (hd.grown hg1 (fun e => by cases e))
  have O1 := Lib.hid hown1
  have B1 := Lib.hid hb1
  clear hown1 hg1 hb0 hb1 hd
  go_wp2_with fail
  refine (zzreceived_any first l v1 w1 hf (Rd.of_own O1.out) Hl.out H1.out (HT.out.below B1.out)).mono ?_
  rintro e w2 ⟨c, A2, c2, du, hP, rfl, d2, d2', b2⟩
  have hru : runs (came l l.length) c (topOf l l.length - c) = allRuns l c := rfl
  rw [hru] at d2 ⊢
  obtain ⟨hR1, hR2⟩ := allRuns_ok (c := c) H1.out
  have HGA := Lib.hid (rfl : allRuns l c = allRuns l c)
  obtain ⟨R, hR⟩ : ∃ R, R = allRuns l c := ⟨_, rfl⟩
  rw [← hR] at d2 hR1 hR2 ⊢
  have HR := Lib.hid hR
  obtain ⟨n, hn⟩ : ∃ n, n = R.length := ⟨_, rfl⟩
  rw [← hn] at d2 hR1 ⊢
  have Hn := Lib.hid hn
  have htl := twice_le l l.length
  obtain ⟨T, hT'⟩ : ∃ T, T = twice l l.length := ⟨_, rfl⟩
  rw [← hT'] at d2' htl
  have HT' := Lib.hid hT'
  obtain ⟨q, hq⟩ : ∃ q, q = T.length := ⟨_, rfl⟩
  rw [← hq] at d2' htl
  have Hq := Lib.hid hq
  have HP := Lib.hid hP
  have HR2 := Lib.hid hR2
  have D2 := Lib.hid (D1.out.below b2 D1.out.lt)
  have E2 := Lib.hid d2
  have E2' := Lib.hid d2'
  have B2 := Lib.hid (below_step B1.out B1.out.size b2)
  have hq1 : q ≤ 1000 := by have := Hl.out; omega
  clear hR hn hT' hq hP hR2 d2 d2' b2 hru HGA htl
  go_wp2_with fail
  refine (pairs_any (.slice A2 n c2) (gI R) w2 (by rw [gI_length, ← Hn.out]; exact E2.out) (by rw [gI_length, ← Hn.out]; omega) HR2.out).mono ?_
  rintro e w3 ⟨A3, c3, rfl, d3, b3⟩
  rw [gI_length, ← Hn.out] at d3 ⊢
  have D3 := Lib.hid (D2.out.below b3 D2.out.lt)
  have E3 := Lib.hid d3
  have E3' := Lib.hid (E2'.out.below b3)
  have B3 := Lib.hid (below_step B2.out B2.out.size b3)
  clear d3 b3
  go_wp2_with (at_builtin; refine wpList_append_rd _ rfl _ _ rfl uT w3.heap.size (.slice none 0 0) 0 [] rfl (World.ownsRow_nil _ _ _ _) du q (dcs first T) rfl E3'.out (dcs_one _ _) ?e2 ?e3 ?e4 ?_)
  case e2 => unfold maxLen; omega
  case e3 => omega
  case e4 => omega
  intro v4 w4 hown4 hg4 _
  obtain ⟨A4, c4, e4⟩ := own_slice hown4
  subst e4
  have hb4 : Below w3.heap.size w3 w4 := (Below.refl _ _).grown hg4 (Nat.le_refl _) (fun k hk => by cases hk)
  have hr4 := D3.out.below hb4 D3.out.lt
  have hy4 := hr4.four
  have hz0 := hr4.frozen 0
  have hz1 := hr4.frozen 1
  have hz2 := hr4.frozen 2
  have hz3 := hr4.frozen 3
  have hw3 : w.heap.size < w3.heap.size := D3.out.lt
  have U4 := Lib.hid hown4
  have Q4 := Lib.hid (E3.out.below hb4)
  have B4 := Lib.hid (below_step B3.out B3.out.size hb4)
  have R4 := Lib.hid hr4
  have hf3 := Q4.out.apart hr4 (by intro x hx hy; obtain ⟨z, rfl⟩ := prs_kind hx; simp at hy)
  have hR := hr4.set4 (.int .u32 (tsnOf first c : Nat)) (.int .u32 0) (.slice A3 n c3) (.slice A4 q c4)
  have hO := only_set4 w4 w.heap.size (.int .u32 (tsnOf first c : Nat)) (.int .u32 0) (.slice A3 n c3) (.slice A4 q c4)
  have hS := Q4.out.only' hO hf3
  have hS' := (Rd.of_own U4.out).only' hO (fun _ => own_far U4.out hw3)
  have hB := below_only B4.out B4.out.size hO (Nat.le_refl _)
  have HS := Lib.hid hS
  have HS' := Lib.hid hS'
  have HB := Lib.hid hB
  have HRR := Lib.hid hR
  clear hown4 hg4 hb4 hr4 hf3 hR hO hS hS' hB
  go_wp2
  refine bodyPost_ret (results_cell_tmp_row rfl _ _ w.heap.size _ _ (0, 0) _ rfl HRR.out Tryd.underlying27 rfl sk_info) rfl ?_
  refine ⟨c, A3, c3, A4, c4, HP.out, ?_, ?_, ?_, HB.out⟩
  · rw [← HR.out, ← HT'.out, ← Hn.out, ← Hq.out]; rfl
  · rw [← HR.out, ← Hn.out]; exact HS.out
  · rw [← HT'.out, ← Hq.out]; exact HS'.out
end Go.Proofs.YtbmnpadpjbcljaaDoor
