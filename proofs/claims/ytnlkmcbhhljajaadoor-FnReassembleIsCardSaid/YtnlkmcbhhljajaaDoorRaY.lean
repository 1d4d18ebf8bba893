/- The contract of read when all has been read. Condition: the error variable holds an error. -/
import Derived.Test.YtnlkmcbhhljajaaDoorRaX
namespace Go.Proofs.YtnlkmcbhhljajaaDoor
open Go.RowKit Go.Lib

/-- The error variable holds an error. -/
def ErrAt (w : World) : Prop := ∃ T v, w.cell? ⟨0, 0, none⟩ = some (.iface T v)
theorem ErrAt.below {w w' : World} {B : Nat} (h : ErrAt w) (hB : 0 < B) (hb : Below B w w') : ErrAt w' := by
  obtain ⟨T, v, hc⟩ := h
  exact ⟨T, v, (hb.cell hB).trans hc⟩
theorem ErrAt.lt {w : World} (h : ErrAt w) : 0 < w.heap.size := by
  obtain ⟨T, v, hc⟩ := h
  exact World.block_lt_of_cell? w _ hc

/-- What reading past the end leaves. -/
def ReadNo (w : World) (z : Ending) (w' : World) : Prop := (∃ T v, z = .returned (.tuple #[.int .i64 0, .int .u32 0, .iface T v])) ∧ ∃ q, w' = w.drewN q

set_option maxRecDepth 20000 in
set_option maxHeartbeats 1600000 in
theorem read_end (first st B Q : Nat) (w0 w : World) (g0 c0 nx : Nat) (nb : Int) (Gs : List MSet) (gb : Nat) (h : RSt first st B Q w0 w g0 c0 nx Gs.length nb Gs) (he : ErrAt w) :
    Calls Tryd.prog 15 #[.pointer (some ⟨Q, 0, none⟩), .slice (some ⟨gb, 0, none⟩) 4096 4096] w (ReadNo w) := by
  obtain ⟨T, v, he⟩ := he
  obtain ⟨Ao, co, hq, _⟩ := id h.q
  rw [Nat.sub_self] at hq
  obtain ⟨G2, q1, q3, q4, q10, qf⟩ := hq.cells
  clear hq h q1 qf
  go_enter Tryd.func15, Tryd.ntmps15
  go_wp2_with fail
  go_quiet (fail)
  go_wp2
  go_ret3
  exact ⟨⟨T, v, rfl⟩, nq, rfl⟩
end Go.Proofs.YtnlkmcbhhljajaaDoor
