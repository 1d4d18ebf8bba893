/- Plain mathematics: sorted lists are one; a message cut into pieces. No program in sight. No condition. -/
import Derived.Test.YtnlkmcbhhljajaaDoorRaH
namespace Go.Proofs.YtnlkmcbhhljajaaDoor

theorem sorted_one {α : Type} (f : α → Nat) : ∀ {l2 l1 : List α}, l1.Perm l2 → l1.Pairwise (fun a b => f a ≤ f b) → l2.Pairwise (fun a b => f a < f b) → l1 = l2 := by
  intro l2
  induction l2 with
  | nil => intro l1 hp _ _; exact List.perm_nil.1 hp
  | cons b t2 ih =>
    intro l1 hp h1 h2
    cases l1 with
    | nil => exact absurd (List.perm_nil.1 hp.symm) (by simp)
    | cons a t1 =>
      obtain ⟨h1a, h1t⟩ := List.pairwise_cons.1 h1
      obtain ⟨h2b, h2t⟩ := List.pairwise_cons.1 h2
      have hab : a = b := by
        rcases List.mem_cons.1 (hp.mem_iff.1 (List.mem_cons_self (a := a) (l := t1))) with h | h
        · exact h
        · rcases List.mem_cons.1 (hp.mem_iff.2 (List.mem_cons_self (a := b) (l := t2))) with h' | h'
          · exact h'.symm
          · have e1 := h2b a h
            have e2 := h1a b h'
            omega
      subst hab
      rw [ih ((List.perm_cons a).1 hp) h1t h2t]

/-- A message cut into pieces of a size (the size is at least 1). -/
def cut (size : Nat) : Nat → List UInt8 → List (List UInt8)
  | 0, _ => []
  | n + 1, m => if m = [] then [] else m.take size :: cut size n (m.drop size)
theorem cut_join {size : Nat} (hs : 1 ≤ size) : ∀ {n : Nat} {m : List UInt8}, m.length ≤ n → (cut size n m).flatten = m := by
  intro n
  induction n with
  | zero => intro m h; simp at h; simp [cut, h]
  | succ n ih =>
    intro m h
    unfold cut
    split
    · rename_i h0; simp [h0]
    · rename_i h0
      have hl : 0 < m.length := List.length_pos_iff.2 h0
      rw [List.flatten_cons, ih (by rw [List.length_drop]; omega), List.take_append_drop]
end Go.Proofs.YtnlkmcbhhljajaaDoor
