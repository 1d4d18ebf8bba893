/- Rows of this seat whose argument is a struct with a list of pairs: the argument opened to its cells. No condition. -/
import Derived.Test.YtnaihmmfnffejaaDoorCardD
import Derived.Test.YtnaihmmfnffejaaDoorPrs
import Derived.Deep.Slices
namespace Go.Proofs.YtnaihmmfnffejaaDoor
open Go.ChangeShapes Go.WideShapes Go.ChangeAt Go.RowKit Go.Deep

theorem list_of {α : Type} (Q : Nat → α → Prop) (n : Nat) (h : ∀ i, i < n → ∃ a, Q i a) : ∃ l : List α, l.length = n ∧ ∀ i a, l[i]? = some a → Q i a := by
  induction n with
  | zero => exact ⟨[], rfl, fun i a hi => by simp at hi⟩
  | succ n ih =>
    obtain ⟨l, hl, hq⟩ := ih (fun i hi => h i (by omega))
    obtain ⟨a, ha⟩ := h n (by omega)
    refine ⟨l ++ [a], by simp [hl], fun i b hi => ?_⟩
    rcases Nat.lt_or_ge i n with hlt | hge
    · rw [List.getElem?_append_left (by omega)] at hi
      exact hq i b hi
    · rw [List.getElem?_append_right (by omega)] at hi
      have h0 : i - l.length = 0 := by
        have := (List.getElem?_eq_some_iff.1 hi).1
        simp at this
        omega
      rw [h0] at hi
      simp at hi
      subst hi
      obtain rfl : i = n := by omega
      exact ha

theorem prs_inv {k : IntKind} {l : List (Int × Int)} {j : Nat} {u : Value} (h : (prs k l)[j]? = some u) : ∃ p, l[j / 2]? = some p ∧ ((j = j / 2 * 2 ∧ u = .int k p.1) ∨ (j = j / 2 * 2 + 1 ∧ u = .int k p.2)) := by
  have hj := (List.getElem?_eq_some_iff.1 h).1
  rw [prs_length] at hj
  have hl : j / 2 < l.length := by omega
  have hp : l[j / 2]? = some l[j / 2] := List.getElem?_eq_getElem hl
  obtain ⟨g1, g2⟩ := prs_get k l _ _ hp
  refine ⟨_, hp, ?_⟩
  rcases (show j = j / 2 * 2 ∨ j = j / 2 * 2 + 1 by omega) with e | e
  · left
    rw [← e, h] at g1
    exact ⟨e, by injection g1⟩
  · right
    rw [← e, h] at g2
    exact ⟨e, by injection g2⟩

theorem ints_cells : Tryd.prog.cellsOf 3 = 1 ∧ Tryd.prog.cellsOf 50 = 2 := ⟨by kernel_rfl, by kernel_rfl⟩

theorem open_pairs {H : Type} {enc : TypeId × Value → H} {W : World} {base : Nat} {sp : Nat → Bool} {fuel : Nat} {v : Value} {x : DataW H × List MemPlace} (h : DataW.trod enc Tryd.prog W base sp true fuel 41 [v] = some x) :
    ∃ (A : Option Addr) (c : Nat) (l : List (Int × Int)), v = .slice A l.length c ∧ Rd W 2 l.length (.slice A l.length c) (prs .i64 l) := by
  obtain ⟨c1, c2⟩ := ints_cells
  rcases open_slice Tryd.underlying41 h with ⟨e, _⟩ | ⟨a, len, cap, m, n, D, Pl, e, hb, hl, hm, hmm, _, hi⟩
  · simp only [List.cons.injEq, and_true] at e
    subst e
    exact ⟨none, 0, [], rfl, Rd.nil _ _⟩
  · simp only [List.cons.injEq, and_true] at e
    subst e
    have hlm : len ≤ m := by rw [hmm]; split <;> omega
    obtain ⟨l, hll, hq⟩ := list_of (α := Int × Int) (fun i p => W.cell? (a.add (i * 2)) = some (.int .i64 p.1) ∧ W.cell? (a.add (i * 2 + 1)) = some (.int .i64 p.2)) len (fun i hlt => by
      obtain ⟨cs', hc, ht⟩ := hi i (by omega)
      rw [c2] at hc
      obtain ⟨_, hcl, hat⟩ := World.cells?_some hc
      obtain ⟨ys, m', _, _, _, hyl, hf⟩ := DataW.trod_array Tryd.underlying50 ht
      rw [c1] at hf
      match cs', hcl with
      | [u0, u1], _ =>
        have h0 := hf 0 (by omega)
        have h1 := hf 1 (by omega)
        rw [List.getElem?_eq_getElem (by omega)] at h0 h1
        obtain ⟨z0, e0, _⟩ := DataW.trod_int Tryd.underlying3 h0
        obtain ⟨z1, e1, _⟩ := DataW.trod_int Tryd.underlying3 h1
        simp only [Nat.zero_mul, Nat.one_mul, List.drop_zero, List.drop_succ_cons, List.take_succ_cons, List.take_zero, List.cons.injEq, and_true] at e0 e1
        have a0 := hat 0 (by omega)
        have a1 := hat 1 (by omega)
        rw [Go.Deep.add_add] at a0 a1
        exact ⟨(z0, z1), by simpa [e0] using a0, by simpa [e1] using a1⟩)
    subst hll
    refine ⟨some a, cap, l, rfl, some a, cap, rfl, hl, hm, prs_length _ _, (fun h => by cases h), fun hp => ?_⟩
    obtain ⟨g, o, spot⟩ := a
    have hx0 : l[0]? = some (l[0]'(by omega)) := List.getElem?_eq_getElem (by omega)
    have hspot : spot = none := by
      have h0 := (hq 0 _ hx0).1
      simpa [Addr.add] using World.cell?_spot h0
    subst hspot
    refine ⟨g, o, rfl, fun j u hu => ?_⟩
    obtain ⟨p, hp', hc⟩ := prs_inv hu
    obtain ⟨q1, q2⟩ := hq _ _ hp'
    rw [Addr.add_lit] at q1 q2
    rcases hc with ⟨ej, rfl⟩ | ⟨ej, rfl⟩
    · rw [ej]; exact q1
    · rw [ej]; exact q2

set_option maxRecDepth 100000 in
theorem open_fwd {H : Type} {enc : TypeId × Value → H} {W : World} {base : Nat} {sp : Nat → Bool} {r : Reach} {b0 : Nat} {v : Value} {d : DataW H} {ps : List MemPlace}
    (hv : Value.okWide Tryd.prog W r b0 52 v) (h : DataW.Trod enc Tryd.prog W base sp true 52 v d ps) :
    ∃ (tsn : Int) (A : Option Addr) (c : Nat) (l : List (Int × Int)), v = .agg #[.int .u32 tsn, .slice A l.length c] ∧ Rd W 2 l.length (.slice A l.length c) (prs .i64 l) ∧ 0 ≤ tsn ∧ tsn ≤ 4294967295 := by
  obtain ⟨l, n, rfl, hl, hf⟩ := open_agg Tryd.underlying52 (by kernel_rfl) (by kernel_rfl) hv h
  match l, hl with
  | [c0, c1], _ =>
    obtain ⟨y0, h0⟩ := hf 0 _ c0 rfl rfl
    obtain ⟨y1, h1⟩ := hf 1 _ c1 rfl rfl
    obtain ⟨tsn, e0, _, w0⟩ := DataW.trod_int Tryd.underlying35 h0
    simp only [List.cons.injEq, and_true] at e0
    subst e0
    obtain ⟨A, c, l, rfl, hr⟩ := open_pairs h1
    simp [Lit.wf, IntKind.min, IntKind.max, IntKind.signed, IntKind.bits] at w0
    exact ⟨tsn, A, c, l, rfl, hr, by omega, by omega⟩
end Go.Proofs.YtnaihmmfnffejaaDoor
