/- Rows of this seat whose argument is a struct of user data: the argument opened to its cells. No condition. -/
import Derived.Test.YtnaihmmfnffejaaDoorCard
import Derived.Deep.Fields
namespace Go.Proofs.YtnaihmmfnffejaaDoor
open Go.ChangeShapes Go.WideShapes Go.ChangeAt Go.RowKit Go.Deep

theorem open_agg {H : Type} {enc : TypeId × Value → H} {P : Program} {w : World} {base : Nat} {spare : Nat → Bool} {held : Bool} {r : Reach} {b0 : Nat} {t : TypeId} {fs : Array Field} {v : Value} {d : DataW H} {p : List MemPlace}
    (hs : P.underlying t = some (.struct fs)) (hone : oneCellFields P fs = true) (hC : P.cellsOf t = fs.size) (hv : Value.okWide P w r b0 t v) (h : DataW.Trod enc P w base spare held t v d p) :
    ∃ (l : List Value) (n : Nat), v = .agg l.toArray ∧ l.length = fs.size ∧ ∀ (j : Nat) (f : Field) (c : Value), fs[j]? = some f → l[j]? = some c → ∃ y, DataW.trod enc P w base spare held n f.type [c] = some y := by
  obtain ⟨cs, rfl, hsz⟩ := okWide_struct hs hv
  obtain ⟨l⟩ := cs
  obtain ⟨fuel, hf⟩ := h
  obtain ⟨xs, n, _, hx, _, hlen, hg⟩ := DataW.trod_struct hs hf
  refine ⟨l, n, rfl, by simpa using hsz.trans hC, fun j f c hj hc => ?_⟩
  obtain ⟨ho, hk⟩ := hone_of hone j f hj
  have h1 := hg j f hj
  have hjl : j < fs.size := (Array.getElem?_eq_some_iff.1 hj).1
  have hl : l.length = fs.size := by simpa using hsz.trans hC
  rw [ho, hk] at h1
  have hd : (l.drop j).take 1 = [c] := by
    rw [List.drop_eq_getElem_cons (by omega)]
    have := List.getElem_of_getElem? hc
    obtain ⟨h2, h3⟩ := this
    simp [h3]
  have e : (Value.agg l.toArray).cells.toList = l := by simp [Value.cells]
  rw [e, hd, List.getElem?_eq_getElem (by omega)] at h1
  exact ⟨_, h1⟩

set_option maxRecDepth 100000 in
theorem open_data {H : Type} {enc : TypeId × Value → H} {W : World} {base : Nat} {sp : Nat → Bool} {r : Reach} {b0 : Nat} {v : Value} {d : DataW H} {ps : List MemPlace}
    (hv : Value.okWide Tryd.prog W r b0 59 v) (h : DataW.Trod enc Tryd.prog W base sp true 59 v d ps) :
    ∃ (u b e i : Bool) (tsn st sq pr : Int) (A : Option Addr) (n c : Nat) (l : List UInt8), v = .agg #[.bool u, .bool b, .bool e, .bool i, .int .u32 tsn, .int .i64 st, .int .i64 sq, .int .u32 pr, .slice A n c] ∧
      Sl W (.slice A n c) l ∧ (0 ≤ tsn ∧ tsn ≤ 4294967295) ∧ (0 ≤ pr ∧ pr ≤ 4294967295) := by
  obtain ⟨l, n, rfl, hl, hf⟩ := open_agg Tryd.underlying59 (by kernel_rfl) (by kernel_rfl) hv h
  match l, hl with
  | [c0, c1, c2, c3, c4, c5, c6, c7, c8], _ =>
    obtain ⟨y0, h0⟩ := hf 0 _ c0 rfl rfl
    obtain ⟨y1, h1⟩ := hf 1 _ c1 rfl rfl
    obtain ⟨y2, h2⟩ := hf 2 _ c2 rfl rfl
    obtain ⟨y3, h3⟩ := hf 3 _ c3 rfl rfl
    obtain ⟨y4, h4⟩ := hf 4 _ c4 rfl rfl
    obtain ⟨y5, h5⟩ := hf 5 _ c5 rfl rfl
    obtain ⟨y6, h6⟩ := hf 6 _ c6 rfl rfl
    obtain ⟨y7, h7⟩ := hf 7 _ c7 rfl rfl
    obtain ⟨y8, h8⟩ := hf 8 _ c8 rfl rfl
    obtain ⟨u, e0, _⟩ := DataW.trod_bool Tryd.underlying4 h0
    obtain ⟨b, e1, _⟩ := DataW.trod_bool Tryd.underlying4 h1
    obtain ⟨e, e2, _⟩ := DataW.trod_bool Tryd.underlying4 h2
    obtain ⟨i, e3, _⟩ := DataW.trod_bool Tryd.underlying4 h3
    obtain ⟨tsn, e4, _, w4⟩ := DataW.trod_int Tryd.underlying35 h4
    obtain ⟨st, e5, _⟩ := DataW.trod_int Tryd.underlying3 h5
    obtain ⟨sq, e6, _⟩ := DataW.trod_int Tryd.underlying3 h6
    obtain ⟨pr, e7, _, w7⟩ := DataW.trod_int Tryd.underlying35 h7
    have hsl : ∃ A m c, c8 = .slice A m c := by
      rcases DataW.trod_slice Tryd.underlying22 h8 with ⟨e, _⟩ | ⟨a, len, cap, _, _, _, _, e, _⟩
      · exact ⟨none, 0, 0, by simpa using e⟩
      · exact ⟨some a, len, cap, by simpa using e⟩
    obtain ⟨A, m, c, rfl⟩ := hsl
    obtain ⟨l, hl⟩ := open_bytes (enc := enc) (W := W) (base := base) (sp := sp) (A := A) (n := m) (c := c) ⟨_, h8⟩
    simp only [List.cons.injEq, and_true] at e0 e1 e2 e3 e4 e5 e6 e7
    subst e0 e1 e2 e3 e4 e5 e6 e7
    simp [Lit.wf, IntKind.min, IntKind.max, IntKind.signed, IntKind.bits] at w4 w7
    exact ⟨u, b, e, i, tsn, st, sq, pr, A, m, c, l, rfl, hl, by omega, by omega⟩
end Go.Proofs.YtnaihmmfnffejaaDoor
