/- Rows of this seat whose argument is a struct with a list of pairs and a list of numbers: the argument opened to its cells. No condition. -/
import Derived.Test.YtnaihmmfnffejaaDoorCardF
import Derived.Test.YtnaihmmfnffejaaDoorSkT
namespace Go.Proofs.YtnaihmmfnffejaaDoor
open Go.ChangeShapes Go.WideShapes Go.ChangeAt Go.RowKit Go.Deep

theorem open_u32s {H : Type} {enc : TypeId × Value → H} {W : World} {base : Nat} {sp : Nat → Bool} {fuel : Nat} {v : Value} {x : DataW H × List MemPlace} (h : DataW.trod enc Tryd.prog W base sp true fuel 42 [v] = some x) :
    ∃ (A : Option Addr) (c : Nat) (l : List Int), v = .slice A l.length c ∧ Rd W 1 l.length (.slice A l.length c) (u32s l) ∧ ∀ z ∈ l, Ok32 z := by
  have c1 : Tryd.prog.cellsOf 35 = 1 := by kernel_rfl
  rcases open_slice Tryd.underlying42 h with ⟨e, _⟩ | ⟨a, len, cap, m, n, D, Pl, e, hb, hl, hm, hmm, _, hi⟩
  · simp only [List.cons.injEq, and_true] at e
    subst e
    exact ⟨none, 0, [], rfl, Rd.nil _ _, by simp⟩
  · simp only [List.cons.injEq, and_true] at e
    subst e
    have hlm : len ≤ m := by rw [hmm]; split <;> omega
    obtain ⟨l, hll, hq⟩ := list_of (α := Int) (fun i z => W.cell? (a.add i) = some (.int .u32 z) ∧ Ok32 z) len (fun i hlt => by
      obtain ⟨cs', hc, ht⟩ := hi i (by omega)
      rw [c1, Nat.mul_one] at hc
      obtain ⟨_, hcl, hat⟩ := World.cells?_some hc
      match cs', hcl with
      | [u0], _ =>
        obtain ⟨z0, e0, _, w0⟩ := DataW.trod_int Tryd.underlying35 ht
        simp only [List.cons.injEq, and_true] at e0
        have a0 := hat 0 (by omega)
        rw [Go.Deep.add_add] at a0
        simp [Lit.wf, IntKind.min, IntKind.max, IntKind.signed, IntKind.bits] at w0
        exact ⟨z0, by simpa [e0] using a0, by unfold Ok32; omega⟩)
    subst hll
    refine ⟨some a, cap, l, rfl, ⟨some a, cap, rfl, hl, hm, by rw [u32s_length, Nat.mul_one], (fun h => by cases h), fun hp => ?_⟩, fun z hz => ?_⟩
    · obtain ⟨g, o, spot⟩ := a
      have hx0 : l[0]? = some (l[0]'(by omega)) := List.getElem?_eq_getElem (by omega)
      have hspot : spot = none := by
        have h0 := (hq 0 _ hx0).1
        simpa [Addr.add] using World.cell?_spot h0
      subst hspot
      refine ⟨g, o, rfl, fun j u hu => ?_⟩
      simp only [u32s, List.getElem?_map, Option.map_eq_some_iff] at hu
      obtain ⟨z, hz, rfl⟩ := hu
      have q1 := (hq _ _ hz).1
      rw [Addr.add_lit] at q1
      exact q1
    · obtain ⟨i, hi⟩ := List.mem_iff_getElem?.1 hz
      exact (hq i z hi).2

set_option maxRecDepth 100000 in
theorem open_sack {H : Type} {enc : TypeId × Value → H} {W : World} {base : Nat} {sp : Nat → Bool} {r : Reach} {b0 : Nat} {v : Value} {d : DataW H} {ps : List MemPlace}
    (hv : Value.okWide Tryd.prog W r b0 44 v) (h : DataW.Trod enc Tryd.prog W base sp true 44 v d ps) :
    ∃ (tsn win : Int) (A : Option Addr) (c : Nat) (l : List (Int × Int)) (B : Option Addr) (c' : Nat) (m : List Int), v = .agg #[.int .u32 tsn, .int .u32 win, .slice A l.length c, .slice B m.length c'] ∧ Rd W 2 l.length (.slice A l.length c) (prs .i64 l) ∧ Rd W 1 m.length (.slice B m.length c') (u32s m) ∧ 0 ≤ tsn ∧ tsn ≤ 4294967295 ∧ 0 ≤ win ∧ win ≤ 4294967295 ∧ ∀ z ∈ m, Ok32 z := by
  obtain ⟨l, n, rfl, hl, hf⟩ := open_agg Tryd.underlying44 (by kernel_rfl) (by kernel_rfl) hv h
  match l, hl with
  | [c0, c1, c2, c3], _ =>
    obtain ⟨y0, h0⟩ := hf 0 _ c0 rfl rfl
    obtain ⟨y1, h1⟩ := hf 1 _ c1 rfl rfl
    obtain ⟨y2, h2⟩ := hf 2 _ c2 rfl rfl
    obtain ⟨y3, h3⟩ := hf 3 _ c3 rfl rfl
    obtain ⟨tsn, e0, _, w0⟩ := DataW.trod_int Tryd.underlying35 h0
    obtain ⟨win, e1, _, w1⟩ := DataW.trod_int Tryd.underlying35 h1
    simp only [List.cons.injEq, and_true] at e0 e1
    subst e0 e1
    obtain ⟨A, c, l, rfl, hr⟩ := open_pairs h2
    obtain ⟨B, c', m, rfl, hm, hz⟩ := open_u32s h3
    simp [Lit.wf, IntKind.min, IntKind.max, IntKind.signed, IntKind.bits] at w0 w1
    exact ⟨tsn, win, A, c, l, B, c', m, rfl, hr, hm, by omega, by omega, by omega, by omega, hz⟩
end Go.Proofs.YtnaihmmfnffejaaDoor
