/- Rows of this seat: a list of byte slices and a list of ints opened to their cells; the error variable. No condition. -/
import Derived.Test.YtnlkmcbhhljajaaDoorRbh
import Derived.Test.YtnlkmcbhhljajaaDoorCard
import Derived.Deep.Fields
import Derived.Deep.Slices
namespace Go.Proofs.YtnlkmcbhhljajaaDoor
open Go.ChangeShapes Go.WideShapes Go.ChangeAt Go.RowKit Go.Deep

theorem list_of {α : Type} (Q : Nat → α → Prop) (n : Nat) (h : ∀ i, i < n → ∃ a, Q i a) : ∃ l : List α, l.length = n ∧ ∀ i a, l[i]? = some a → Q i a := by
  induction n with
  | zero => exact ⟨[], rfl, fun i a hi => by simp at hi⟩
  | succ n ih =>
    obtain ⟨l, hl, hq⟩ := ih (fun i hi => h i (by omega))
    obtain ⟨a, ha⟩ := h n (by omega)
    refine ⟨l ++ [a], by simp [hl], fun i b hi => ?_⟩
    rcases Nat.lt_or_ge i n with hlt | hge
    · rw [List.getElem?_append_left (by omega)] at hi
      exact hq i b hi
    · rw [List.getElem?_append_right (by omega)] at hi
      have h0 : i - l.length = 0 := by
        have := (List.getElem?_eq_some_iff.1 hi).1
        simp at this
        omega
      rw [h0] at hi
      simp at hi
      subst hi
      obtain rfl : i = n := by omega
      exact ha

theorem bs_cells : Tryd.prog.cellsOf 26 = 1 := by kernel_rfl

set_option maxRecDepth 100000 in
theorem open_msgs {H : Type} {enc : TypeId × Value → H} {W : World} {base : Nat} {sp : Nat → Bool} {fuel : Nat} {v : Value} {x : DataW H × List MemPlace} (h : DataW.trod enc Tryd.prog W base sp true fuel 23 [v] = some x) :
    ∃ (A : Option Addr) (c : Nat) (vs : List Value) (ms : List (List UInt8)), v = .slice A vs.length c ∧ MsgsAt W A c vs ms := by
  have c1 := bs_cells
  rcases open_slice Tryd.underlying23 h with ⟨e, _⟩ | ⟨a, len, cap, m, n, D, Pl, e, hb, hl, hm, hmm, _, hi⟩
  · simp only [List.cons.injEq, and_true] at e
    subst e
    exact ⟨none, 0, [], [], rfl, rfl, Rd.nil _ _, fun i v m h => by simp at h⟩
  · simp only [List.cons.injEq, and_true] at e
    subst e
    have hlm : len ≤ m := by rw [hmm]; split <;> omega
    obtain ⟨ps, hll, hq⟩ := list_of (α := Value × List UInt8) (fun i p => W.cell? (a.add i) = some p.1 ∧ Sl W p.1 p.2) len (fun i hlt => by
      obtain ⟨cs', hc, ht⟩ := hi i (by omega)
      rw [c1] at hc
      obtain ⟨_, hcl, hat⟩ := World.cells?_some hc
      match cs', hcl with
      | [u0], hcl =>
        have hsl : ∃ A m c, u0 = .slice A m c := by
          rcases DataW.trod_slice Tryd.underlying26 ht with ⟨e, _⟩ | ⟨a, len, cap, _, _, _, _, e, _⟩
          · exact ⟨none, 0, 0, by simpa using e⟩
          · exact ⟨some a, len, cap, by simpa using e⟩
        obtain ⟨A1, m1, k1, rfl⟩ := hsl
        obtain ⟨l, hl⟩ := open_bytes (enc := enc) (W := W) (base := base) (sp := sp) (A := A1) (n := m1) (c := k1) ⟨_, ht⟩
        have a0 := hat 0 (by omega)
        rw [Go.Deep.add_add] at a0
        exact ⟨(.slice A1 m1 k1, l), by simpa using a0, hl⟩)
    subst hll
    refine ⟨some a, cap, ps.map (·.1), ps.map (·.2), by rw [List.length_map], by simp, ?_, fun i v m h1 h2 => ?_⟩
    · rw [List.length_map]
      refine ⟨some a, cap, rfl, hl, hm, by rw [List.length_map, Nat.mul_one], (fun h => by cases h), fun hp => ?_⟩
      obtain ⟨g, o, spot⟩ := a
      have hx0 : ps[0]? = some (ps[0]'(by omega)) := List.getElem?_eq_getElem (by omega)
      have hspot : spot = none := by
        have h0 := (hq 0 _ hx0).1
        simpa [Addr.add] using World.cell?_spot h0
      subst hspot
      refine ⟨g, o, rfl, fun j u hu => ?_⟩
      rw [List.getElem?_map] at hu
      cases hpj : ps[j]? with
      | none => rw [hpj] at hu; cases hu
      | some p =>
        rw [hpj] at hu
        injection hu with hu
        have h3 := (hq j p hpj).1
        rw [Addr.add_lit] at h3
        rw [h3]
        exact congrArg some hu
    · rw [List.getElem?_map] at h1 h2
      cases hpi : ps[i]? with
      | none => rw [hpi] at h1; cases h1
      | some p =>
        rw [hpi] at h1 h2
        injection h1 with h1
        injection h2 with h2
        subst h1 h2
        exact (hq i p hpi).2
theorem open_msgsT {H : Type} {enc : TypeId × Value → H} {W : World} {base : Nat} {sp : Nat → Bool} {v : Value} {d : DataW H} {ps : List MemPlace} (h : DataW.Trod enc Tryd.prog W base sp true 23 v d ps)
    (hv : ∃ A n c, v = .slice A n c) : ∃ (A : Option Addr) (c : Nat) (vs : List Value) (ms : List (List UInt8)), v = .slice A vs.length c ∧ MsgsAt W A c vs ms := by
  obtain ⟨fuel, hf⟩ := h
  obtain ⟨A, n, c, rfl⟩ := hv
  exact open_msgs (v := .slice A n c) (by simpa [Value.cells] using hf)

/-- Ints that were read as data. -/
theorem open_i64s {H : Type} {enc : TypeId × Value → H} {W : World} {base : Nat} {sp : Nat → Bool} {A : Option Addr} {n c : Nat} {d : DataW H} {ps : List MemPlace}
    (h : DataW.Trod enc Tryd.prog W base sp true 24 (.slice A n c) d ps) : ∃ l : List Int, n = l.length ∧ Rd W 1 l.length (.slice A l.length c) (i64s l) := by
  obtain ⟨fuel, hf⟩ := h
  rcases open_ints Tryd.underlying24 Tryd.underlying3 (by kernel_rfl) hf with ⟨hcs, _⟩ | ⟨x, m, k, zs, hcs, _, hl, hm, hz, _, hcell, hwz⟩
  · simp [Value.cells] at hcs
    obtain ⟨rfl, rfl, rfl⟩ := hcs
    exact ⟨[], rfl, Rd.nil _ _⟩
  · simp [Value.cells] at hcs
    obtain ⟨rfl, rfl, rfl⟩ := hcs
    have hzn : n ≤ zs.length := by split at hz <;> omega
    have hlen : (zs.take n).length = n := by simp; omega
    refine ⟨zs.take n, hlen.symm, ?_⟩
    rw [hlen]
    refine ⟨some x, c, rfl, by omega, hm, by rw [i64s_length, hlen, Nat.mul_one], (fun h => by cases h), fun hp => ?_⟩
    obtain ⟨g, o, spot⟩ := x
    have hc0 := hcell 0 (by omega)
    have hspot : spot = none := by simpa [Addr.add] using World.cell?_spot hc0
    subst hspot
    refine ⟨g, o, rfl, fun j u hu => ?_⟩
    have hj := (List.getElem?_eq_some_iff.1 hu).1
    rw [i64s_length, hlen] at hj
    have hcj := hcell j (by omega)
    have hget : zs[j]? = some (zs.getD j 0) := by rw [List.getD_eq_getElem?_getD, List.getElem?_eq_getElem (by omega)]; rfl
    have e : u = .int .i64 (zs.getD j 0) := by
      simp only [i64s, List.getElem?_map, List.getElem?_take, if_pos hj, hget, Option.map_some] at hu
      injection hu with hu
      exact hu.symm
    rw [e]
    rw [Addr.add_lit] at hcj
    exact hcj
end Go.Proofs.YtnlkmcbhhljajaaDoor
