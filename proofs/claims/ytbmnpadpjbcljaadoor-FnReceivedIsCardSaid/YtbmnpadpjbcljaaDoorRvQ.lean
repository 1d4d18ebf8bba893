/- The contract of push. Condition: the numbers are at most 1000 behind the first. -/
import Derived.Test.YtbmnpadpjbcljaaDoorRvO
namespace Go.Proofs.YtbmnpadpjbcljaaDoor
open Go.RowKit Go.Lib

theorem uT : ElT Tryd.prog 25 22 (.int .u32 0) 1 4 := ⟨Tryd.underlying25, by kernel_rfl, rfl, by decide⟩

theorem qfar {first c : Nat} : IntKind.u32.wrap (((tsnOf first c : Nat) : Int) + 40000) = (tsnOf first (c + 40000) : Nat) := by
  have e : tsnOf first (c + 40000) = (tsnOf first c + 40000) % 4294967296 := by unfold tsnOf; omega
  rw [e]
  simp [IntKind.wrap, IntKind.bits, IntKind.signed]

/-- What push leaves where the number had come. -/
def Dupped (first c top n gq gm d B B2 m : Nat) (xs : List Value) (ws : List Nat) (t tm : TypeId) (w : World) (e : Ending) (w' : World) : Prop :=
  e = .returned (.bool false) ∧ ∃ du, Row w' gq t (qcells first c top n gm du) ∧ Row w' gm tm (u64s ws) ∧ w'.ownsRow B2 22 1 du (m + 1) (xs ++ [.int .u32 (tsnOf first d : Nat)]) ∧ Below B w w' ∧ w.heap.size ≤ w'.heap.size

set_option maxRecDepth 20000 in
theorem push_dup (first c top n gq gm d B B2 m : Nat) (f : Nat → Bool) (du : Value) (xs : List Value) (ws : List Nat) (t tm : TypeId) (w : World) (hf : first < 4294967296) (hr : Row w gq t (qcells first c top n gm du)) (hm : Row w gm tm (u64s ws)) (hk : MaskOk first ws f) (hq : QF c top n f) (h1 : 1 ≤ d) (h2 : d ≤ 1000)
    (hown : w.ownsRow B2 22 1 du m xs) (hB : B ≤ gq) (hne : gq ≠ gm) (hB2 : gq < B2) (hB3 : gm < B2) (hB4 : B2 ≤ w.heap.size) (hm2 : m ≤ 1000) (hdup : d ≤ c ∨ f d = true) :
    Calls Tryd.prog 11 #[.pointer (some ⟨gq, 0, none⟩), .int .u32 (tsnOf first d : Nat)] w (Dupped first c top n gq gm d B B2 m xs ws t tm w) := by
  have hc := hq.c
  have htop := hq.top
  have C1 := Lib.hid (sna32GT_near first d (c + 40000) w.drew hf (by omega) (by omega))
  rw [decide_eq_false (by omega)] at C1
  have C2 := Lib.hid (sna32LTE_near first d c w.drew hf (by omega) (by omega))
  have C3 := Lib.hid (haschunk_any first c top n gq gm d f du ws t tm w.drew hf hr.drew hm.drew hk hq h1 (by omega))
  have k3 : w.cell? ⟨gq, 3, none⟩ = some du := by rw [hr.cell]; rfl
  have k4 : w.cell? ⟨gq, 4, none⟩ = some (.int .u32 40000) := by rw [hr.cell]; rfl
  have k5 : w.cell? ⟨gq, 5, none⟩ = some (.int .u32 (tsnOf first c : Nat)) := by rw [hr.cell]; rfl
  have k3' : ∀ o, (w.drew.alloc o).cell? ⟨gq, 3, none⟩ = some du := fun o => by rw [(hr.drew.alloc o).cell]; rfl
  have hs := qfar (first := first) (c := c)
  have hne' : ¬ gm = gq := fun e => hne e.symm
  have Hr := Lib.hid hr
  have Hm := Lib.hid hm
  have HO := Lib.hid hown
  generalize tsnOf first (c + 40000) = tf at C1 hs
  obtain ⟨td, htd⟩ : ∃ td, td = tsnOf first d := ⟨_, rfl⟩
  rw [← htd] at C1 C2 C3 ⊢
  have Htd := Lib.hid htd
  by_cases hdc : d ≤ c
  · rw [decide_eq_true hdc] at C2
    clear hr hm hk hq hown hdup C3 htd
    go_enter Tryd.func11, Tryd.ntmps11
    go_wp2_with fail
    refine wp_region_tail 10 (by kernel_rfl) (by kernel_rfl) ?_
    simp only [List.take_succ_cons, List.take_zero, List.drop_succ_cons, List.drop_zero]
    repeat still_step
    refine wpStill_nil ?_
    go_wp2_with fail
    refine C1.out.mono ?_
    rintro e w' ⟨rfl, rfl⟩
    go_wp2_with fail
    refine C2.out.mono ?_
    rintro e w' ⟨rfl, rfl⟩
    go_wp2_with (at_builtin; refine wpList_append_rd _ rfl _ _ rfl uT B2 du m _ rfl (HO.out.drew.alloc _) _ 1 [_] rfl (Rd.lit w.drew 22 [.int .u32 (td : Int)] 1 rfl (by omega)) ?c1 ?c2 ?c3 ?c4 ?_)
    case c1 => simp [Value.oneCell']
    case c2 => unfold maxLen; omega
    case c3 => omega
    case c4 => show B2 ≤ (w.alloc _).heap.size; rw [World.size_alloc]; omega
    intro v5 w5 hown5 hg5 _
    obtain ⟨A5, c5, e5⟩ := own_slice hown5
    subst e5
    have hr5 := (Hr.out.drew.alloc (.cells #[.int .u32 (td : Int)] 22)).grown hg5 (own_apart HO.out hB2).symm
    have hm5 := (Hm.out.drew.alloc (.cells #[.int .u32 (td : Int)] 22)).grown hg5 (own_apart HO.out hB3).symm
    have y3 : w5.cell? ⟨gq, 3, none⟩ = some du := by rw [hr5.cell]; rfl
    have f3 := hr5.frozen 3
    have hb5 : Below B w w5 := (((Below.refl B w).drew).alloc (by show B ≤ w.heap.size; omega) (.cells #[.int .u32 (td : Int)] 22)).grown hg5 (by show B ≤ (w.alloc _).heap.size; rw [World.size_alloc]; omega) (fun j hj => by have := (HO.out.lt j hj).1; omega)
    have hz5 : w.heap.size ≤ w5.heap.size := by have h1 : (w.drew.alloc (.cells #[.int .u32 (td : Int)] 22)).heap.size ≤ w5.heap.size := hg5.size; have h2 : (w.drew.alloc (.cells #[.int .u32 (td : Int)] 22)).heap.size = w.heap.size + 1 := (by rw [World.size_alloc]; rfl); omega
    have hg6 : w5.grownBy (w5.setCell ⟨gq, 3, none⟩ (.slice A5 (m + 1) c5)) (some gq) := only_set (only_refl _ _) 3 _
    have R6 := Lib.hid (hr5.set 3 (.slice A5 (m + 1) c5))
    have M6 := Lib.hid (hm5.far (p := ⟨gq, 3, none⟩) hne' (.slice A5 (m + 1) c5))
    have O6 := Lib.hid (hown5.kept hg6 (.inr (own_apart hown5 hB2)))
    have B6 := Lib.hid (below_only hb5 (by omega) hg6 hB)
    have Z6 : w.heap.size ≤ (w5.setCell ⟨gq, 3, none⟩ (.slice A5 (m + 1) c5)).heap.size := by simpa [World.setCell] using hz5
    clear hown5 hg5 hr5 hm5 hb5 hz5 hg6
    go_wp2
    go_ret
    exact ⟨rfl, _, R6.out, M6.out, by rw [← Htd.out]; exact O6.out, B6.out, Z6⟩
  · rw [decide_eq_false hdc] at C2
    have hfd : f d = true := by rcases hdup with h | h; · exact absurd h hdc
                                · exact h
    rw [hfd] at C3
    clear hr hm hk hq hown hdup htd hfd
    go_enter Tryd.func11, Tryd.ntmps11
    go_wp2_with fail
    refine wp_region_tail 10 (by kernel_rfl) (by kernel_rfl) ?_
    simp only [List.take_succ_cons, List.take_zero, List.drop_succ_cons, List.drop_zero]
    repeat still_step
    refine wpStill_nil ?_
    go_wp2_with fail
    refine C1.out.mono ?_
    rintro e w' ⟨rfl, rfl⟩
    go_wp2_with fail
    refine C2.out.mono ?_
    rintro e w' ⟨rfl, rfl⟩
    go_wp2_with fail
    refine C3.out.mono ?_
    rintro e w' ⟨rfl, rfl⟩
    go_wp2_with (at_builtin; refine wpList_append_rd _ rfl _ _ rfl uT B2 du m _ rfl (HO.out.drew.alloc _) _ 1 [_] rfl (Rd.lit w.drew 22 [.int .u32 (td : Int)] 1 rfl (by omega)) ?c1 ?c2 ?c3 ?c4 ?_)
    case c1 => simp [Value.oneCell']
    case c2 => unfold maxLen; omega
    case c3 => omega
    case c4 => show B2 ≤ (w.alloc _).heap.size; rw [World.size_alloc]; omega
    intro v5 w5 hown5 hg5 _
    obtain ⟨A5, c5, e5⟩ := own_slice hown5
    subst e5
    have hr5 := (Hr.out.drew.alloc (.cells #[.int .u32 (td : Int)] 22)).grown hg5 (own_apart HO.out hB2).symm
    have hm5 := (Hm.out.drew.alloc (.cells #[.int .u32 (td : Int)] 22)).grown hg5 (own_apart HO.out hB3).symm
    have y3 : w5.cell? ⟨gq, 3, none⟩ = some du := by rw [hr5.cell]; rfl
    have f3 := hr5.frozen 3
    have hb5 : Below B w w5 := (((Below.refl B w).drew).alloc (by show B ≤ w.heap.size; omega) (.cells #[.int .u32 (td : Int)] 22)).grown hg5 (by show B ≤ (w.alloc _).heap.size; rw [World.size_alloc]; omega) (fun j hj => by have := (HO.out.lt j hj).1; omega)
    have hz5 : w.heap.size ≤ w5.heap.size := by have h1 : (w.drew.alloc (.cells #[.int .u32 (td : Int)] 22)).heap.size ≤ w5.heap.size := hg5.size; have h2 : (w.drew.alloc (.cells #[.int .u32 (td : Int)] 22)).heap.size = w.heap.size + 1 := (by rw [World.size_alloc]; rfl); omega
    have hg6 : w5.grownBy (w5.setCell ⟨gq, 3, none⟩ (.slice A5 (m + 1) c5)) (some gq) := only_set (only_refl _ _) 3 _
    have R6 := Lib.hid (hr5.set 3 (.slice A5 (m + 1) c5))
    have M6 := Lib.hid (hm5.far (p := ⟨gq, 3, none⟩) hne' (.slice A5 (m + 1) c5))
    have O6 := Lib.hid (hown5.kept hg6 (.inr (own_apart hown5 hB2)))
    have B6 := Lib.hid (below_only hb5 (by omega) hg6 hB)
    have Z6 : w.heap.size ≤ (w5.setCell ⟨gq, 3, none⟩ (.slice A5 (m + 1) c5)).heap.size := by simpa [World.setCell] using hz5
    clear hown5 hg5 hr5 hm5 hb5 hz5 hg6
    go_wp2
    go_ret
    exact ⟨rfl, _, R6.out, M6.out, by rw [← Htd.out]; exact O6.out, B6.out, Z6⟩
end Go.Proofs.YtbmnpadpjbcljaaDoor
