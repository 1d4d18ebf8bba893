/- Rows whose argument is an INIT: the argument opened to its cells. No condition. -/
import Derived.Test.YtokkhfjlbnochaaDoorCardP
namespace Go.Proofs.YtokkhfjlbnochaaDoor
open Go.ChangeShapes Go.WideShapes Go.ChangeAt Go.RowKit Go.Deep

set_option maxRecDepth 100000 in
theorem open_init {H : Type} {enc : TypeId × Value → H} {W : World} {base : Nat} {sp : Nat → Bool} {r : Reach} {b0 : Nat} {v : Value} {d : DataW H} {ps : List MemPlace}
    (hv : Value.okWide Tryd.prog W r b0 25 v) (h : DataW.Trod enc Tryd.prog W base sp true 25 v d ps) :
    ∃ (ack : Bool) (tag win : Nat) (out inn : Int) (tsn : Nat) (A : Option Addr) (c : Nat) (l : List Pm), v = .agg #[.bool ack, .int .u32 (tag : Int), .int .u32 (win : Int), .int .i64 out, .int .i64 inn, .int .u32 (tsn : Int), .slice A l.length c] ∧ Rd W 2 l.length (.slice A l.length c) (pms .i64 l) ∧ PAll l W ∧ tag ≤ 4294967295 ∧ win ≤ 4294967295 ∧ tsn ≤ 4294967295 := by
  obtain ⟨l, n, rfl, hl, hf⟩ := open_agg Tryd.underlying25 (by kernel_rfl) (by kernel_rfl) hv h
  match l, hl with
  | [c0, c1, c2, c3, c4, c5, c6], _ =>
    obtain ⟨y0, h0⟩ := hf 0 _ c0 rfl rfl
    obtain ⟨y1, h1⟩ := hf 1 _ c1 rfl rfl
    obtain ⟨y2, h2⟩ := hf 2 _ c2 rfl rfl
    obtain ⟨y3, h3⟩ := hf 3 _ c3 rfl rfl
    obtain ⟨y4, h4⟩ := hf 4 _ c4 rfl rfl
    obtain ⟨y5, h5⟩ := hf 5 _ c5 rfl rfl
    obtain ⟨y6, h6⟩ := hf 6 _ c6 rfl rfl
    obtain ⟨ack, e0, _⟩ := DataW.trod_bool Tryd.underlying4 h0
    obtain ⟨tag, e1, _, w1⟩ := DataW.trod_int Tryd.underlying22 h1
    obtain ⟨win, e2, _, w2⟩ := DataW.trod_int Tryd.underlying22 h2
    obtain ⟨out, e3, _⟩ := DataW.trod_int Tryd.underlying3 h3
    obtain ⟨inn, e4, _⟩ := DataW.trod_int Tryd.underlying3 h4
    obtain ⟨tsn, e5, _, w5⟩ := DataW.trod_int Tryd.underlying22 h5
    simp only [List.cons.injEq, and_true] at e0 e1 e2 e3 e4 e5
    subst e0 e1 e2 e3 e4 e5
    obtain ⟨A, c, l, rfl, hr, ha⟩ := open_params h6
    simp [Lit.wf, IntKind.min, IntKind.max, IntKind.signed, IntKind.bits] at w1 w2 w5
    obtain ⟨tag, rfl⟩ := Int.eq_ofNat_of_zero_le (show 0 ≤ tag by omega)
    obtain ⟨win, rfl⟩ := Int.eq_ofNat_of_zero_le (show 0 ≤ win by omega)
    obtain ⟨tsn, rfl⟩ := Int.eq_ofNat_of_zero_le (show 0 ≤ tsn by omega)
    exact ⟨ack, tag, win, out, inn, tsn, A, c, l, rfl, hr, ha, by omega, by omega, by omega⟩
end Go.Proofs.YtokkhfjlbnochaaDoor
