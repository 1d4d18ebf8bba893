/- The walk of FnReassembleIs. Conditions: the error variable holds an error; the first number is of its kind. -/
import Derived.Test.YtnlkmcbhhljajaaDoorRbf
namespace Go.Proofs.YtnlkmcbhhljajaaDoor
open Go.RowKit Go.Lib

/-- The law's answer. -/
def Yes (w : World) (z : Ending) (w' : World) : Prop := z = .returned (.bool true) ∧ Below w.heap.size w w'

set_option maxRecDepth 20000 in
set_option maxHeartbeats 1600000 in
theorem fnReassembleIs_out (first : Nat) (stream size : Int) (A : Option Addr) (n c : Nat) (vs : List Value) (ms : List (List UInt8)) (A2 : Option Addr) (k c2 : Nat) (w : World) (h : MsgsAt w A c vs ms) (hn : n = vs.length)
    (hout : ¬ (0 ≤ stream ∧ stream ≤ 65535 ∧ 1 ≤ n ∧ n ≤ 20 ∧ 1 ≤ size ∧ size ≤ 200 ∧ k ≤ 5000)) :
    Calls Tryd.prog 3 #[.int .u32 (first : Int), .int .i64 stream, .slice A n c, .int .i64 size, .slice A2 k c2] w (Yes w) := by
  have hfit := fits8_any A c vs ms w h
  rw [← hn] at hfit
  have HF := Lib.hid hfit
  clear h hn hfit
  go_enter Tryd.func3, Tryd.ntmps3
  go_wp2_with fail
  refine HF.out.mono ?_
  rintro z w1 ⟨b, rfl, rfl⟩
  clear HF
  cases b with
  | false =>
    go_wp2
    go_ret
    exact ⟨rfl, Below.refl _ _⟩
  | true =>
    by_cases hbig : 2147483647 < (k : Int)
    · clear hout
      go_wp2
      go_ret
      exact ⟨rfl, Below.refl _ _⟩
    by_cases q0 : stream < 0
    · clear hout
      go_wp2
      go_ret
      exact ⟨rfl, Below.refl _ _⟩
    by_cases q1 : 65535 < stream
    · clear hout
      go_wp2
      go_ret
      exact ⟨rfl, Below.refl _ _⟩
    by_cases q2 : (n : Int) < 1
    · clear hout
      go_wp2
      go_ret
      exact ⟨rfl, Below.refl _ _⟩
    by_cases q3 : 20 < (n : Int)
    · clear hout
      go_wp2
      go_ret
      exact ⟨rfl, Below.refl _ _⟩
    by_cases q4 : size < 1
    · clear hout
      go_wp2
      go_ret
      exact ⟨rfl, Below.refl _ _⟩
    by_cases q5 : 200 < size
    · clear hout
      go_wp2
      go_ret
      exact ⟨rfl, Below.refl _ _⟩
    have q6 : 5000 < (k : Int) := by
      rcases Nat.lt_or_ge 5000 k with h | h
      · omega
      · exact absurd ⟨by omega, by omega, by omega, by omega, by omega, by omega, h⟩ hout
    clear hout
    go_wp2
    go_ret
    exact ⟨rfl, Below.refl _ _⟩
end Go.Proofs.YtnlkmcbhhljajaaDoor
