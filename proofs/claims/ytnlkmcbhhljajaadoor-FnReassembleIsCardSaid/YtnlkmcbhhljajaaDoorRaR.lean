/- A region that draws its order, by an invariant: each operation that may come up keeps it. No condition. -/
import Derived.Test.YtnlkmcbhhljajaaDoorRaC
import Derived.Orders
namespace Go.Proofs.YtnlkmcbhhljajaaDoor
open Go.RowKit Go.Lib

theorem wpAny_inv {P : Program} {md : Region.Mode} {ops : Array Oper} {Q : Exit → Act → World → Prop} (Inv : Nat → Array Bool → Act → World → Prop)
    (h0 : ∀ l a w, Inv 0 l a w → Region.ready md ops l = [] ∧ Q .normal a w)
    (hs : ∀ n l a w, Inv (n + 1) l a w → Region.ready md ops l ≠ [] ∧ ∀ i ∈ Region.ready md ops l, wpOp P ops Q i (fun a' w' => Inv n (l.setIfInBounds i true) a' w') a w) :
    ∀ n l a w, Inv n l a w → wpAny P md ops Q n l a w := by
  intro n
  induction n with
  | zero => exact h0
  | succ n ih =>
    intro l a w h
    obtain ⟨h1, h2⟩ := hs n l a w h
    exact ⟨fun h => absurd h h1, fun i hi => wpOp_mono (fun a' w' => ih _ a' w') (h2 i hi)⟩

theorem mem_ready' {md : Region.Mode} {ops : Array Oper} {l : Array Bool} {i : Nat} (h : i ∈ Region.ready md ops l) : i < ops.size ∧ l.getD i true = false ∧ ((ops[i]?).map (·.after.all fun e => !Region.binds md e || l.getD e.on false)).getD false = true := by
  unfold Region.ready at h
  rw [List.mem_filter] at h
  obtain ⟨h1, h2⟩ := h
  simp only [Bool.and_eq_true, Bool.not_eq_true'] at h2
  exact ⟨List.mem_range.1 h1, h2.1, h2.2⟩
theorem ready_mk {md : Region.Mode} {ops : Array Oper} {l : Array Bool} {i : Nat} (h1 : decide (i < ops.size) = true) (h2 : l.getD i true = false) (h3 : ((ops[i]?).map (·.after.all fun e => !Region.binds md e || l.getD e.on false)).getD false = true) : i ∈ Region.ready md ops l := by
  unfold Region.ready
  rw [List.mem_filter]
  exact ⟨List.mem_range.2 (of_decide_eq_true h1), by rw [h2, h3]; rfl⟩
end Go.Proofs.YtnlkmcbhhljajaaDoor
