/- Rows of this seat whose argument is a list of ints, and whose listed variable is a table: the argument opened to its cells; the table's cells. No condition. -/
import Derived.Test.YtbmnpadpjbcljaaDoorRvX
import Derived.Test.YtbmnpadpjbcljaaDoorTie
import Derived.Test.YtbmnpadpjbcljaaDoorCards
import Derived.WalkKit
import Derived.ProofKit
import Derived.OpenShut
import Derived.LaidMore
import Derived.LaidLaws
import Derived.MakeChecks
import Derived.ChangeOld
import Derived.Stop.Joined
import Derived.SevenTiedAt
import Derived.Lib.LaidTab
namespace Go.Proofs.YtbmnpadpjbcljaaDoor
open Go.ChangeShapes Go.WideShapes Go.ChangeAt Go.RowKit

theorem own : ownKnob Tryd.prog.godebug = none := by kernel_rfl
theorem laidOut : laidOutB Tryd.prog = true := by kernel_rfl

/-- The table's cells, off the row's condition. -/
theorem tab_at {W : World} (hL : laidMetH Tryd.prog Rows.fnReceivedIsRow.laid W) : TabAt W := by
  rw [MakeChecks.laidMetH_plain _ _ _ (by kernel_rfl)] at hL
  have hL' : laidMet Tryd.prog (("math/bits.deBruijn64tab", Lib.tabData .u8 (Lib.deBruijn64tab.map fun (x : Nat) => (x : Int))) :: []) W := hL
  have hT : Lib.TabIs Tryd.prog W "math/bits.deBruijn64tab" .u8 (Lib.deBruijn64tab.map fun (x : Nat) => (x : Int)) :=
    Lib.tabIs_of_head (g := 0) (by kernel_rfl) (by kernel_rfl) Tryd.underlying61 Tryd.underlying5 (by kernel_rfl) (by kernel_rfl) hL'
  intro j hj
  have hl : Lib.deBruijn64tab.length = 64 := rfl
  rw [hT.cell (g := 0) (by kernel_rfl) j (by rw [List.length_map, hl]; exact hj)]
  rw [List.getD_eq_getElem?_getD, List.getElem?_map, List.getD_eq_getElem?_getD, List.getElem?_eq_getElem (by rw [hl]; exact hj)]
  rfl

/-- Ints that were read as data. -/
theorem open_i64s {H : Type} {enc : TypeId × Value → H} {W : World} {base : Nat} {sp : Nat → Bool} {A : Option Addr} {n c : Nat} {d : DataW H} {ps : List MemPlace}
    (h : DataW.Trod enc Tryd.prog W base sp true 23 (.slice A n c) d ps) : ∃ l : List Int, n = l.length ∧ Rd W 1 l.length (.slice A l.length c) (i64s l) := by
  obtain ⟨fuel, hf⟩ := h
  rcases open_ints Tryd.underlying23 Tryd.underlying3 (by kernel_rfl) hf with ⟨hcs, _⟩ | ⟨x, m, k, zs, hcs, _, hl, hm, hz, _, hcell, hwz⟩
  · simp [Value.cells] at hcs
    obtain ⟨rfl, rfl, rfl⟩ := hcs
    exact ⟨[], rfl, Rd.nil _ _⟩
  · simp [Value.cells] at hcs
    obtain ⟨rfl, rfl, rfl⟩ := hcs
    have hzn : n ≤ zs.length := by split at hz <;> omega
    have hlen : (zs.take n).length = n := by simp; omega
    refine ⟨zs.take n, hlen.symm, ?_⟩
    rw [hlen]
    refine ⟨some x, c, rfl, by omega, hm, by rw [i64s_length, hlen, Nat.mul_one], (fun h => by cases h), fun hp => ?_⟩
    obtain ⟨g, o, spot⟩ := x
    have hc0 := hcell 0 (by omega)
    have hspot : spot = none := by simpa [Addr.add] using World.cell?_spot hc0
    subst hspot
    refine ⟨g, o, rfl, fun j u hu => ?_⟩
    have hj := (List.getElem?_eq_some_iff.1 hu).1
    rw [i64s_length, hlen] at hj
    have hcj := hcell j (by omega)
    have hget : zs[j]? = some (zs.getD j 0) := by rw [List.getD_eq_getElem?_getD, List.getElem?_eq_getElem (by omega)]; rfl
    have e : u = .int .i64 (zs.getD j 0) := by
      simp only [i64s, List.getElem?_map, List.getElem?_take, if_pos hj, hget, Option.map_some] at hu
      injection hu with hu
      exact hu.symm
    rw [e]
    rw [Addr.add_lit] at hcj
    exact hcj
end Go.Proofs.YtbmnpadpjbcljaaDoor
