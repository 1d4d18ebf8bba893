/- The contracts of push and of subtractNumBytes. Conditions: as pushWithError's. -/
import Derived.Test.YtnlkmcbhhljajaaDoorRaE
namespace Go.Proofs.YtnlkmcbhhljajaaDoor
open Go.RowKit Go.Lib

/-- push is pushWithError without its error. -/
theorem push_of {Q g : Nat} {w : World} {R : World → Prop} {post : Ending → World → Prop} (h : Calls Tryd.prog 16 #[.pointer (some ⟨Q, 0, none⟩), .pointer (some ⟨g, 0, none⟩)] w post)
    (hp : ∀ z w', post z w' → (∃ b, z = .returned (.tuple #[.bool b, .nilIface])) ∧ R w') :
    Calls Tryd.prog 13 #[.pointer (some ⟨Q, 0, none⟩), .pointer (some ⟨g, 0, none⟩)] w fun z w' => (∃ b, z = .returned (.bool b)) ∧ R w' := by
  have H := Lib.hid h
  have HP := Lib.hid hp
  clear h hp
  go_enter Tryd.func13, Tryd.ntmps13
  go_wp2_with fail
  refine H.out.mono ?_
  intro z w' hz
  obtain ⟨⟨b, rfl⟩, hR⟩ := HP.out z w' hz
  have HR := Lib.hid hR
  clear hz hR
  go_wp2
  go_ret
  exact ⟨⟨b, rfl⟩, HR.out⟩

theorem run_store64 {a : Addr} {y : Int} {u : Value} {w : World} (hc : w.cell? a = some u) (hz : w.frozen? a = false) :
    (callFunc 38 #[.pointer (some a), .int .u64 y]).run Tryd.prog w = .ok (.value (.tuple #[])) (w.setCell a (.int .u64 y)) :=
  run_call_store Tryd.func38 (by kernel_rfl) (by kernel_rfl) (by kernel_rfl) (by kernel_rfl) hc hz

theorem QRow.nbcell {Q si next : Nat} {ov : Value} {nb : Int} {w : World} (h : QRow Q si next ov nb w) : w.cell? ⟨Q, 11, none⟩ = some (.int .u64 nb) ∧ w.frozen? ⟨Q, 11, none⟩ = false := by
  obtain ⟨G2, G3, G4, mp, mq, hrow⟩ := h
  exact ⟨by rw [hrow.cell]; rfl, hrow.frozen 11⟩

/-- Whatever is counted, it is counted on. -/
def Less (Q : Nat) (w : World) (z : Ending) (w' : World) : Prop := z = .returned (.tuple #[]) ∧ ∃ nb', w' = w.setCell ⟨Q, 11, none⟩ (.int .u64 nb')

set_option maxRecDepth 20000 in
theorem subnb_any (Q si next : Nat) (ov : Value) (nb n : Int) (w : World) (h : QRow Q si next ov nb w) :
    Calls Tryd.prog 19 #[.pointer (some ⟨Q, 0, none⟩), .int .i64 n] w (Less Q w) := by
  obtain ⟨c11, f11⟩ := h.nbcell
  have hl := run_load64 c11
  have ha := fun y => run_add64 (y := y) c11 f11
  have hs := fun y => run_store64 (y := y) c11 f11
  clear h
  go_enter Tryd.func19, Tryd.ntmps19
  go_wp2
  all_goals go_end0
  all_goals exact ⟨rfl, _, rfl⟩
end Go.Proofs.YtnlkmcbhhljajaaDoor
