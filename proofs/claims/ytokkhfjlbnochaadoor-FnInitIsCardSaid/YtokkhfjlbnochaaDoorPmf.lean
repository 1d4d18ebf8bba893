/- Contracts of zzFits7 and zzFits6. No condition. -/
import Derived.Test.YtokkhfjlbnochaaDoorPms
namespace Go.Proofs.YtokkhfjlbnochaaDoor
open Go.RowKit Go.Lib

theorem fits7_any (ty : Int) (A : Option Addr) (n c : Nat) (w : World) : Calls Tryd.prog 21 #[.agg #[.int .i64 ty, .slice A n c]] w fun z w' => z = .returned (.bool (decide ((n : Int) ≤ 2147483647))) ∧ Below w.heap.size w w' := by
  by_cases h : (n : Int) ≤ 2147483647
  · rw [decide_eq_true h]
    have h' : ¬ (2147483647 < (n : Int)) := by omega
    go_enter Tryd.func21, Tryd.ntmps21
    go_wp2
    go_ret
    exact ⟨rfl, (Below.refl _ _).alloc (Nat.le_refl _) _⟩
  · rw [decide_eq_false h]
    have h' : 2147483647 < (n : Int) := by omega
    go_enter Tryd.func21, Tryd.ntmps21
    go_wp2
    go_ret
    exact ⟨rfl, (Below.refl _ _).alloc (Nat.le_refl _) _⟩

/-- It tells something, and true where nothing is too long. -/
def FitsEnd (w : World) (n : Nat) (ps : List Pm) (e : Ending) (w' : World) : Prop := ∃ b, e = .returned (.bool b) ∧ ((n ≤ 2147483647 ∧ ∀ p ∈ ps, p.l.length ≤ 2147483647) → b = true) ∧ Below w.heap.size w w'

set_option maxRecDepth 20000 in
theorem fits6_any (A : Option Addr) (n c : Nat) (ps : List Pm) (w : World) (h : Rd w 2 n (.slice A n c) (pms .i64 ps)) (hn : n = ps.length) (ha : PAll ps w) :
    Calls Tryd.prog 10 #[.slice A n c] w (FitsEnd w n ps) := by
  by_cases hb : 2147483647 < (n : Int)
  · clear h hn ha
    go_enter Tryd.func10, Tryd.ntmps10
    go_wp2
    go_ret
    exact ⟨false, rfl, fun h => by omega, Below.refl _ _⟩
  · have hb' : (n : Int) ≤ 2147483647 := by omega
    have Hn := Lib.hid hn
    have HA := Lib.hid ha
    obtain ⟨A', c', hv, hnc, hcm, hl0, h0, hc⟩ := h
    injection hv with e1 e2 e3
    subst e1 e3
    have HC := Lib.hid hc
    clear hn ha hl0 h0 hc e2 hb
    unfold maxLen at hcm
    go_enter Tryd.func10, Tryd.ntmps10
    go_wp2
    go_loopw [10] (fun i wr => ∃ k : Nat, k ≤ n ∧ i = .int .i64 k ∧ Below w.heap.size w wr) (fun i _ => n - (intOf i).toNat)
    case atStart => exact ⟨0, Nat.zero_le _, rfl, Below.refl _ _⟩
    case round =>
      obtain ⟨k, hk, rfl, hb⟩ := hrel
      have hbs := hb.size
      have Hb := Lib.hid hb
      by_cases hlt : k < n
      · obtain ⟨g, o, rfl, hg⟩ := HC.out (by omega)
        have hlk : k < ps.length := by have := Hn.out; omega
        have hx : ps[k]? = some ps[k] := List.getElem?_eq_getElem hlk
        have Hm := Lib.hid (List.getElem_mem hlk)
        have hs := HA.out _ (List.getElem_mem hlk)
        generalize ps[k] = x at hx hs Hm
        obtain ⟨hc1, hc2⟩ := pm_cells hg hb hx
        obtain ⟨tx, sx, lx⟩ := x
        obtain ⟨As, cs, hsx, _⟩ := hs
        simp only at hsx hc1 hc2
        subst hsx
        obtain ⟨nx, hnx⟩ : ∃ nx, nx = lx.length := ⟨_, rfl⟩
        rw [← hnx] at hc2
        have Hnx := Lib.hid hnx
        clear hx hg hb hnx
        go_wp2_with fail
        refine (fits7_any tx As nx cs _).mono ?_
        rintro e w2 ⟨rfl, hb2⟩
        have hB2 := below_step (Hb.out.alloc hbs (.cells #[.int .i64 tx, .slice As nx cs] 35)) (by simp; omega) hb2
        have HB2 := Lib.hid hB2
        clear hb2 hB2 hc1 hc2
        by_cases hf : (nx : Int) ≤ 2147483647
        · rw [decide_eq_true hf]
          go_wp2
          go_roundw
          case rel => exact ⟨k + 1, by omega, by go_num, HB2.out⟩
          case measure => simp [intOf]; omega
        · rw [decide_eq_false hf]
          have Hf : Hid (¬ ∀ p ∈ ps, p.l.length ≤ 2147483647) := Lib.hid (fun h => by have := h _ Hm.out; have := Hnx.out; simp only at *; omega)
          go_wp2
          go_ret
          exact ⟨false, rfl, fun h => absurd h.2 Hf.out, HB2.out⟩
      · obtain rfl : k = n := by omega
        clear hb
        go_wp2
        go_ret
        exact ⟨true, rfl, fun _ => rfl, Hb.out⟩
end Go.Proofs.YtokkhfjlbnochaaDoor
