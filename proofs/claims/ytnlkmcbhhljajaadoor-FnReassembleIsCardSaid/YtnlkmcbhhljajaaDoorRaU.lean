/- The contracts of both sorts in the words of own rows, at every length from one on. Conditions: the numbers lie near each other. -/
import Derived.Test.YtnlkmcbhhljajaaDoorRaT
namespace Go.Proofs.YtnlkmcbhhljajaaDoor
open Go.Shelf Go.RowKit Go.Lib Go.Sort

theorem grown_sorted {α : Type} [Inhabited α] {enc : α → Value} {w : World} {g n : Nat} {os : Array Obj} (d : Array α) : w.grownBy (grow (putRow enc (Sort.ahead w n) g 0 d) os) (some g) := by
  refine ⟨rfl, rfl, rfl, by simp, fun k hk hne => ?_⟩
  rw [heap_grow_old _ _ (by simpa using hk)]
  have : g ≠ k := fun e => hne (by rw [e])
  simp [putRow, mapBlock, Sort.ahead, Array.getElem?_modify, this]
theorem grown_grow (w : World) (os : Array Obj) (r : Option Nat) : w.grownBy (grow w os) r :=
  ⟨rfl, rfl, rfl, by simp, fun k hk _ => heap_grow_old _ _ hk⟩
theorem own_grow {w : World} {B : Nat} {e : TypeId} {size n : Nat} {v : Value} {xs : List Value} (h : w.ownsRow B e size v n xs) (os : Array Obj) : (grow w os).ownsRow B e size v n xs := h.kept (grown_grow w os none) (by cases v.ownBlock <;> simp)

/-- What a sort leaves of an own row. -/
def Sorted (t : TypeId) (B : Nat) (v : Value) (L : List Ref) (w : World) (e : Ending) (w' : World) : Prop :=
  e = .returned (.tuple #[]) ∧ ∃ L' : List Ref, L'.Perm L ∧ L'.Pairwise (fun a b => a.2 ≤ b.2) ∧ w'.ownsRow B t 1 v L.length (L'.map rp) ∧ w.grownBy w' v.ownBlock

theorem rp_map_toList {m : Nat} (L : List Ref) (d : Array (Fin (m + 1))) : (d.toList.map (at' L)).map rp = d.toList.map (encR L) := by
  rw [List.map_map]
  rfl

set_option maxHeartbeats 2000000 in
theorem tsn_tiny (blk c : Nat) (w : World) :
    Calls Tryd.prog 28 #[.slice (some ⟨blk, 0, none⟩) 1 c] w fun e w' => e = .returned (.tuple #[]) ∧ ∃ os, w' = grow w os := by
  have hS := fun W => Any.sort_Slice_tiny Tryd.sl6 58 48 tsnT tsnE (by kernel_rfl) (by kernel_rfl) (by kernel_rfl) (by kernel_rfl) 22 (fun _ => by kernel_rfl) (some ⟨blk, 0, none⟩) 1 c (Nat.le_refl _) 61 (by kernel_rfl) (.func 43) #[] #[.pointer (some ⟨w.heap.size, 0, none⟩)] W
  go_enter Tryd.func28, Tryd.ntmps28
  go_wp2_with (go_at_call 42; refine (hS _).mono ?_; rintro e w' ⟨rfl, os, rfl⟩)
  go_end0
  exact ⟨rfl, _, by rw [alloc_eq_grow, grow_grow]⟩

theorem tsn_any (first B : Nat) (v : Value) (L : List Ref) (w : World) (hf : first < 4294967296) (h : w.ownsRow B 48 1 v L.length (L.map rp)) (h0 : L ≠ []) (hl : L.length ≤ 1000000)
    (hc : ∀ r ∈ L, w.cell? ⟨r.1, 8, none⟩ = some (.int .u32 (tsnOf first r.2 : Nat)) ∧ r.2 ≤ 1000000 ∧ v.ownBlock ≠ some r.1) :
    Calls Tryd.prog 28 #[v] w (Sorted 48 B v L w) := by
  obtain ⟨m, hm⟩ : ∃ m, L.length = m + 1 := ⟨L.length - 1, by cases L with | nil => exact absurd rfl h0 | cons a l => rfl⟩
  obtain ⟨g, cap, rfl⟩ : ∃ g cap, v = .slice (some ⟨g, 0, none⟩) (m + 1) cap := by
    rcases h.2 with ⟨_, e0⟩ | ⟨g, cap, cur, rfl, _⟩
    · omega
    · exact ⟨g, cap, by rw [hm]⟩
  by_cases h1 : m = 0
  · subst h1
    refine (tsn_tiny g cap w).mono ?_
    rintro e w' ⟨rfl, os, rfl⟩
    refine ⟨rfl, L, List.Perm.refl _, ?_, own_grow h os, grown_grow _ _ _⟩
    match L, hm with
    | [a], _ => exact List.pairwise_singleton _ _
  · have h' : w.ownsRow B 48 1 (.slice (some ⟨g, 0, none⟩) (m + 1) cap) (m + 1) ((ids m).toList.map (encR L)) := by
      rw [ids_map hm, ← hm]
      rw [hm] at h ⊢
      exact h
    obtain ⟨g', cap', e1, hb, hlt, _, _, _, hH⟩ := holds_of_ownsRow h' (by intro e; cases e)
    injection e1 with e1 _ e3
    injection e1 with e1
    injection e1 with e1
    subst e1 e3
    have hS := tsn_sort first g cap m L hm w hf (by omega) (by omega) (by simpa using hH) hlt (fun r hr => ⟨(hc r hr).1, (hc r hr).2.1, fun e => (hc r hr).2.2 (by rw [e]; rfl)⟩)
    rw [ids_size] at hS
    refine hS.mono ?_
    rintro e w' ⟨rfl, d', n, os, hp, hs, rfl⟩
    obtain ⟨p1, p2⟩ := sorted_refs hm (ids_size m).symm hp hs
    have hd : d'.toList.length = m + 1 := by have := hp.1; rw [ids_size] at this; simpa using this
    refine ⟨rfl, d'.toList.map (at' L), p1, p2, ?_, grown_sorted d'⟩
    have := ownsRow_putRow (q := n) (ys := d'.toList) h' hd (Nat.le_refl _)
    rw [List.take_of_length_le (by omega), ← rp_map_toList] at this
    rw [hm]
    exact own_grow this os

set_option maxHeartbeats 2000000 in
theorem ssn_tiny (blk c : Nat) (w : World) :
    Calls Tryd.prog 35 #[.slice (some ⟨blk, 0, none⟩) 1 c] w fun e w' => e = .returned (.tuple #[]) ∧ ∃ os, w' = grow w os := by
  have hS := fun W => Any.sort_Slice_tiny Tryd.sl6 55 69 ssnT ssnE (by kernel_rfl) (by kernel_rfl) (by kernel_rfl) (by kernel_rfl) 22 (fun _ => by kernel_rfl) (some ⟨blk, 0, none⟩) 1 c (Nat.le_refl _) 61 (by kernel_rfl) (.func 45) #[] #[.pointer (some ⟨w.heap.size, 0, none⟩)] W
  go_enter Tryd.func35, Tryd.ntmps35
  go_wp2_with (go_at_call 42; refine (hS _).mono ?_; rintro e w' ⟨rfl, os, rfl⟩)
  go_end0
  exact ⟨rfl, _, by rw [alloc_eq_grow, grow_grow]⟩

theorem ssn_any (first B : Nat) (v : Value) (L : List Ref) (w : World) (hf : first < 4294967296) (h : w.ownsRow B 69 1 v L.length (L.map rp)) (h0 : L ≠ []) (hl : L.length ≤ 1000000)
    (hc : ∀ r ∈ L, w.cell? ⟨r.1, 0, none⟩ = some (.int .u16 (r.2 : Nat)) ∧ r.2 ≤ 30000 ∧ v.ownBlock ≠ some r.1) :
    Calls Tryd.prog 35 #[v] w (Sorted 69 B v L w) := by
  obtain ⟨m, hm⟩ : ∃ m, L.length = m + 1 := ⟨L.length - 1, by cases L with | nil => exact absurd rfl h0 | cons a l => rfl⟩
  obtain ⟨g, cap, rfl⟩ : ∃ g cap, v = .slice (some ⟨g, 0, none⟩) (m + 1) cap := by
    rcases h.2 with ⟨_, e0⟩ | ⟨g, cap, cur, rfl, _⟩
    · omega
    · exact ⟨g, cap, by rw [hm]⟩
  by_cases h1 : m = 0
  · subst h1
    refine (ssn_tiny g cap w).mono ?_
    rintro e w' ⟨rfl, os, rfl⟩
    refine ⟨rfl, L, List.Perm.refl _, ?_, own_grow h os, grown_grow _ _ _⟩
    match L, hm with
    | [a], _ => exact List.pairwise_singleton _ _
  · have h' : w.ownsRow B 69 1 (.slice (some ⟨g, 0, none⟩) (m + 1) cap) (m + 1) ((ids m).toList.map (encR L)) := by
      rw [ids_map hm, ← hm]
      rw [hm] at h ⊢
      exact h
    obtain ⟨g', cap', e1, hb, hlt, _, _, _, hH⟩ := holds_of_ownsRow h' (by intro e; cases e)
    injection e1 with e1 _ e3
    injection e1 with e1
    injection e1 with e1
    subst e1 e3
    have hS := ssn_sort first g cap m L hm w hf (by omega) (by omega) (by simpa using hH) hlt (fun r hr => ⟨(hc r hr).1, (hc r hr).2.1, fun e => (hc r hr).2.2 (by rw [e]; rfl)⟩)
    rw [ids_size] at hS
    refine hS.mono ?_
    rintro e w' ⟨rfl, d', n, os, hp, hs, rfl⟩
    obtain ⟨p1, p2⟩ := sorted_refs hm (ids_size m).symm hp hs
    have hd : d'.toList.length = m + 1 := by have := hp.1; rw [ids_size] at this; simpa using this
    refine ⟨rfl, d'.toList.map (at' L), p1, p2, ?_, grown_sorted d'⟩
    have := ownsRow_putRow (q := n) (ys := d'.toList) h' hd (Nat.le_refl _)
    rw [List.take_of_length_le (by omega), ← rp_map_toList] at this
    rw [hm]
    exact own_grow this os
end Go.Proofs.YtnlkmcbhhljajaaDoor
