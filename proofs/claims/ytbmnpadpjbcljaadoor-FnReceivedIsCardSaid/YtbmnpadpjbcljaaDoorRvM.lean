/- A map from ints to bools that a call makes: what it tells. No condition. -/
import Derived.Test.YtbmnpadpjbcljaaDoorRvU
import Derived.Maps.OwnOps
import Derived.Maps.Views
namespace Go.Proofs.YtbmnpadpjbcljaaDoor
open Go.RowKit Go.Lib Go.Maps

theorem lawI : Keyed Tryd.prog 3 := int_keyed Tryd.underlying3
theorem zeroB (w : World) : (zeroValue 4).run Tryd.prog w = .ok (.bool false) w := by kernel_rfl

theorem plainElem_bool_inv {P : Program} {e : TypeId} {H : Type} (he : P.underlying e = some .bool) {v : Value} {z : DataW H × List MemPlace} (h : plainElem P e v = some z) : ∃ a, v = .bool a ∧ z = (.lit (.bool a), []) := by
  unfold plainElem at h
  rw [he] at h
  cases v <;> simp at h
  exact ⟨_, rfl, h.symm⟩

/-- Block b is a map of at most n entries that tells of each number whether p does. -/
def MapAt (w : World) (b n : Nat) (p : Nat → Bool) : Prop :=
  ∃ D : DataW Unit, w.ownsMap Tryd.prog 3 (plainElem Tryd.prog 4) b n D ∧ Maps.IsMap D ∧ ∀ x : Nat, x ≤ 1000000 → D.atKey (.int .i64 (x : Int)) (.lit (.bool false)) = .lit (.bool (p x))

theorem MapAt.made (w : World) : MapAt (w.alloc (.map #[] 0)) w.heap.size 0 (fun _ => false) :=
  ⟨.map [], World.ownsMap_made _ _ _ _, Maps.isMap_empty, fun _ _ => rfl⟩
theorem MapAt.kept {w w' : World} {b n : Nat} {p : Nat → Bool} {row : Option Nat} (h : MapAt w b n p) (hg : w.grownBy w' row) (hne : some b ≠ row) : MapAt w' b n p := by
  obtain ⟨D, h1, h2⟩ := h
  exact ⟨D, h1.kept hg hne, h2⟩
theorem MapAt.alloc {w : World} {b n : Nat} {p : Nat → Bool} (h : MapAt w b n p) (o : Obj) : MapAt (w.alloc o) b n p := by
  obtain ⟨D, h1, h2⟩ := h
  exact ⟨D, h1.alloc o, h2⟩
theorem MapAt.drew {w : World} {b n : Nat} {p : Nat → Bool} (h : MapAt w b n p) : MapAt w.drew b n p := h
theorem MapAt.lt {w : World} {b n : Nat} {p : Nat → Bool} (h : MapAt w b n p) : b < w.heap.size := by
  obtain ⟨D, h1, h2⟩ := h
  exact h1.lt

theorem key_mk {x : Nat} (hx : x ≤ 1000000) : keyOf Tryd.prog 3 (.int .i64 (x : Int)) = some (.int .i64 (x : Int)) :=
  keyOf_int_mk Tryd.underlying3 (WalkArith.wf_i64 (by omega))

theorem wpList_tell {w : World} {ops : Array Oper} {rest : List Oper} {o : Oper} {a : Act} {Q : Exit → Act → World → Prop} {b n x : Nat} {p : Nat → Bool} (hown : MapAt w b n p) (hx : x ≤ 1000000)
    (hg : o.guard = none) (m k : Operand) (hop : o.op = Op.lookup 34 m k false) (hm : a.eval m = .map (some b)) (hk : a.eval k = .int .i64 (x : Int))
    (hK : wpList Tryd.prog ops Q rest (a.put o.dst (.bool (p x))) w) : wpList Tryd.prog ops Q (o :: rest) a w := by
  refine wpList_plain hg fun K' hK' => ?_
  obtain ⟨D, h1, h2, h3⟩ := hown
  obtain ⟨v, ps, hrun, hv⟩ := h1.lookup lawI Tryd.underlying34 (zeroB w) (plainElem_bool Tryd.underlying4 false) (key_mk hx)
  obtain ⟨c, rfl, hc⟩ := plainElem_bool_inv Tryd.underlying4 hv
  rw [h3 x hx] at hc
  have e : c = p x := by
    simp only [Prod.mk.injEq, DataW.lit.injEq, Lit.bool.injEq] at hc
    exact hc.1.symm
  subst e
  unfold Oper.wp
  simp [execOp, hop, hm, hk, hrun, Result.andThen]
  exact hK' _ _ hK

theorem wpList_mark {w : World} {ops : Array Oper} {rest : List Oper} {o : Oper} {a : Act} {Q : Exit → Act → World → Prop} {b n x : Nat} {p : Nat → Bool} (hown : MapAt w b n p) (hx : x ≤ 1000000) (hn : n < maxLen)
    (hg : o.guard = none) (m k v : Operand) (hop : o.op = Op.mapUpdate 34 m k v) (hm : a.eval m = .map (some b)) (hk : a.eval k = .int .i64 (x : Int)) (hv : a.eval v = .bool true)
    (hK : ∀ w', MapAt w' b (n + 1) (fun y => p y || decide (y = x)) → w.grownBy w' (some b) → wpList Tryd.prog ops Q rest (a.put o.dst undef) w') : wpList Tryd.prog ops Q (o :: rest) a w := by
  obtain ⟨D, h1, h2, h3⟩ := hown
  refine wpList_mapUpdate_own w hg m k v _ hop 3 4 lawI Tryd.underlying34 _ b n D hm h1 hn _ _ _ hk hv (key_mk hx) _ [] (plainElem_bool Tryd.underlying4 true) fun w' g1 g2 => hK w' ⟨_, g1, h2.put _ _, fun y hy => ?_⟩ g2
  by_cases hyx : y = x
  · subst hyx
    rw [Maps.atKey_put_same h2 (by trivial)]
    simp
  · rw [Maps.atKey_put_other (by intro e; injection e with _ e; exact hyx (by omega)), h3 y hy]
    simp [hyx]
end Go.Proofs.YtbmnpadpjbcljaaDoor
