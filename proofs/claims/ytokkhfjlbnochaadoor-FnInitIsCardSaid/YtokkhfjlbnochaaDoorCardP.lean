/- Rows whose argument is a list of parameters, or a struct: the argument opened to its cells. No condition. -/
import Derived.Test.YtokkhfjlbnochaaDoorCard
import Derived.Test.YtokkhfjlbnochaaDoorPms
import Derived.Deep.Fields
import Derived.Deep.Slices
namespace Go.Proofs.YtokkhfjlbnochaaDoor
open Go.ChangeShapes Go.WideShapes Go.ChangeAt Go.RowKit Go.Deep

theorem open_agg {H : Type} {enc : TypeId × Value → H} {P : Program} {w : World} {base : Nat} {spare : Nat → Bool} {held : Bool} {r : Reach} {b0 : Nat} {t : TypeId} {fs : Array Field} {v : Value} {d : DataW H} {p : List MemPlace}
    (hs : P.underlying t = some (.struct fs)) (hone : oneCellFields P fs = true) (hC : P.cellsOf t = fs.size) (hv : Value.okWide P w r b0 t v) (h : DataW.Trod enc P w base spare held t v d p) :
    ∃ (l : List Value) (n : Nat), v = .agg l.toArray ∧ l.length = fs.size ∧ ∀ (j : Nat) (f : Field) (c : Value), fs[j]? = some f → l[j]? = some c → ∃ y, DataW.trod enc P w base spare held n f.type [c] = some y := by
  obtain ⟨cs, rfl, hsz⟩ := okWide_struct hs hv
  obtain ⟨l⟩ := cs
  obtain ⟨fuel, hf⟩ := h
  obtain ⟨xs, n, _, hx, _, hlen, hg⟩ := DataW.trod_struct hs hf
  refine ⟨l, n, rfl, by simpa using hsz.trans hC, fun j f c hj hc => ?_⟩
  obtain ⟨ho, hk⟩ := hone_of hone j f hj
  have h1 := hg j f hj
  have hjl : j < fs.size := (Array.getElem?_eq_some_iff.1 hj).1
  have hl : l.length = fs.size := by simpa using hsz.trans hC
  rw [ho, hk] at h1
  have hd : (l.drop j).take 1 = [c] := by
    rw [List.drop_eq_getElem_cons (by omega)]
    have := List.getElem_of_getElem? hc
    obtain ⟨h2, h3⟩ := this
    simp [h3]
  have e : (Value.agg l.toArray).cells.toList = l := by simp [Value.cells]
  rw [e, hd, List.getElem?_eq_getElem (by omega)] at h1
  exact ⟨_, h1⟩

theorem list_of {α : Type} (Q : Nat → α → Prop) (n : Nat) (h : ∀ i, i < n → ∃ a, Q i a) : ∃ l : List α, l.length = n ∧ ∀ i a, l[i]? = some a → Q i a := by
  induction n with
  | zero => exact ⟨[], rfl, fun i a hi => by simp at hi⟩
  | succ n ih =>
    obtain ⟨l, hl, hq⟩ := ih (fun i hi => h i (by omega))
    obtain ⟨a, ha⟩ := h n (by omega)
    refine ⟨l ++ [a], by simp [hl], fun i b hi => ?_⟩
    rcases Nat.lt_or_ge i n with hlt | hge
    · rw [List.getElem?_append_left (by omega)] at hi
      exact hq i b hi
    · rw [List.getElem?_append_right (by omega)] at hi
      have h0 : i - l.length = 0 := by
        have := (List.getElem?_eq_some_iff.1 hi).1
        simp at this
        omega
      rw [h0] at hi
      simp at hi
      subst hi
      obtain rfl : i = n := by omega
      exact ha

theorem open_fields {H : Type} {enc : TypeId × Value → H} {P : Program} {w : World} {base : Nat} {spare : Nat → Bool} {held : Bool} {t : TypeId} {fs : Array Field} {fuel : Nat} {l : List Value} {x : DataW H × List MemPlace}
    (hs : P.underlying t = some (.struct fs)) (hone : oneCellFields P fs = true) (hl : l.length = fs.size) (h : DataW.trod enc P w base spare held fuel t l = some x) :
    ∃ n, ∀ (j : Nat) (f : Field) (c : Value), fs[j]? = some f → l[j]? = some c → ∃ y, DataW.trod enc P w base spare held n f.type [c] = some y := by
  obtain ⟨xs, n, _, hx, _, hlen, hg⟩ := DataW.trod_struct hs h
  refine ⟨n, fun j f c hj hc => ?_⟩
  obtain ⟨ho, hk⟩ := hone_of hone j f hj
  have h1 := hg j f hj
  have hjl : j < fs.size := (Array.getElem?_eq_some_iff.1 hj).1
  rw [ho, hk] at h1
  have hd : (l.drop j).take 1 = [c] := by
    rw [List.drop_eq_getElem_cons (by omega)]
    have := List.getElem_of_getElem? hc
    obtain ⟨h2, h3⟩ := this
    simp [h3]
  rw [hd, List.getElem?_eq_getElem (by omega)] at h1
  exact ⟨_, h1⟩

theorem pms_inv {k : IntKind} {ps : List Pm} {j : Nat} {u : Value} (h : (pms k ps)[j]? = some u) : ∃ p, ps[j / 2]? = some p ∧ ((j = j / 2 * 2 ∧ u = .int k p.ty) ∨ (j = j / 2 * 2 + 1 ∧ u = p.s)) := by
  have hj := (List.getElem?_eq_some_iff.1 h).1
  rw [pms_length] at hj
  have hl : j / 2 < ps.length := by omega
  have hp : ps[j / 2]? = some ps[j / 2] := List.getElem?_eq_getElem hl
  obtain ⟨g1, g2⟩ := pms_get k ps _ _ hp
  refine ⟨_, hp, ?_⟩
  rcases (show j = j / 2 * 2 ∨ j = j / 2 * 2 + 1 by omega) with e | e
  · left
    rw [← e, h] at g1
    exact ⟨e, by injection g1⟩
  · right
    rw [← e, h] at g2
    exact ⟨e, by injection g2⟩

theorem param_cells : Tryd.prog.cellsOf 35 = 2 := by kernel_rfl

set_option maxRecDepth 100000 in
theorem open_params {H : Type} {enc : TypeId × Value → H} {W : World} {base : Nat} {sp : Nat → Bool} {fuel : Nat} {v : Value} {x : DataW H × List MemPlace} (h : DataW.trod enc Tryd.prog W base sp true fuel 23 [v] = some x) :
    ∃ (A : Option Addr) (c : Nat) (ps : List Pm), v = .slice A ps.length c ∧ Rd W 2 ps.length (.slice A ps.length c) (pms .i64 ps) ∧ PAll ps W := by
  have c2 := param_cells
  rcases open_slice Tryd.underlying23 h with ⟨e, _⟩ | ⟨a, len, cap, m, n, D, Pl, e, hb, hl, hm, hmm, _, hi⟩
  · simp only [List.cons.injEq, and_true] at e
    subst e
    exact ⟨none, 0, [], rfl, Rd.nil _ _, fun p hp => by simp at hp⟩
  · simp only [List.cons.injEq, and_true] at e
    subst e
    have hlm : len ≤ m := by rw [hmm]; split <;> omega
    obtain ⟨ps, hll, hq⟩ := list_of (α := Pm) (fun i p => (W.cell? (a.add (i * 2)) = some (.int .i64 p.ty) ∧ W.cell? (a.add (i * 2 + 1)) = some p.s) ∧ Sl W p.s p.l) len (fun i hlt => by
      obtain ⟨cs', hc, ht⟩ := hi i (by omega)
      rw [c2] at hc
      obtain ⟨_, hcl, hat⟩ := World.cells?_some hc
      match cs', hcl with
      | [u0, u1], hcl =>
        obtain ⟨n', hf⟩ := open_fields Tryd.underlying35 (by kernel_rfl) (by rfl) ht
        obtain ⟨y0, h0⟩ := hf 0 _ u0 rfl rfl
        obtain ⟨y1, h1⟩ := hf 1 _ u1 rfl rfl
        obtain ⟨ty, e0, _⟩ := DataW.trod_int Tryd.underlying3 h0
        have hsl : ∃ A m c, u1 = .slice A m c := by
          rcases DataW.trod_slice Tryd.underlying27 h1 with ⟨e, _⟩ | ⟨a, len, cap, _, _, _, _, e, _⟩
          · exact ⟨none, 0, 0, by simpa using e⟩
          · exact ⟨some a, len, cap, by simpa using e⟩
        obtain ⟨A1, m1, c1, rfl⟩ := hsl
        obtain ⟨l, hl⟩ := open_bytes (enc := enc) (W := W) (base := base) (sp := sp) (A := A1) (n := m1) (c := c1) ⟨_, h1⟩
        simp only [List.cons.injEq, and_true] at e0
        have a0 := hat 0 (by omega)
        have a1 := hat 1 (by omega)
        rw [Go.Deep.add_add] at a0 a1
        exact ⟨⟨ty, .slice A1 m1 c1, l⟩, ⟨by simpa [e0] using a0, by simpa using a1⟩, hl⟩)
    subst hll
    refine ⟨some a, cap, ps, rfl, ⟨some a, cap, rfl, hl, hm, pms_length _ _, (fun h => by cases h), fun hp => ?_⟩, fun p hp => ?_⟩
    · obtain ⟨g, o, spot⟩ := a
      have hx0 : ps[0]? = some (ps[0]'(by omega)) := List.getElem?_eq_getElem (by omega)
      have hspot : spot = none := by
        have h0 := (hq 0 _ hx0).1.1
        simpa [Addr.add] using World.cell?_spot h0
      subst hspot
      refine ⟨g, o, rfl, fun j u hu => ?_⟩
      obtain ⟨p, hp', hc⟩ := pms_inv hu
      obtain ⟨⟨q1, q2⟩, _⟩ := hq _ _ hp'
      rw [Addr.add_lit] at q1 q2
      rcases hc with ⟨ej, rfl⟩ | ⟨ej, rfl⟩
      · rw [ej]; exact q1
      · rw [ej]; exact q2
    · obtain ⟨i, hi⟩ := List.mem_iff_getElem?.1 hp
      exact (hq i p hi).2

theorem open_paramsT {H : Type} {enc : TypeId × Value → H} {W : World} {base : Nat} {sp : Nat → Bool} {v : Value} {d : DataW H} {ps : List MemPlace} (h : DataW.Trod enc Tryd.prog W base sp true 23 v d ps)
    (hv : ∃ A n c, v = .slice A n c) : ∃ (A : Option Addr) (c : Nat) (ps : List Pm), v = .slice A ps.length c ∧ Rd W 2 ps.length (.slice A ps.length c) (pms .i64 ps) ∧ PAll ps W := by
  obtain ⟨fuel, hf⟩ := h
  obtain ⟨A, n, c, rfl⟩ := hv
  exact open_params (v := .slice A n c) (by simpa [Value.cells] using hf)
end Go.Proofs.YtokkhfjlbnochaaDoor
