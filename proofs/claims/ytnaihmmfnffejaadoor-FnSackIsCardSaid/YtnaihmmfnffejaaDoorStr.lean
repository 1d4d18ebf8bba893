/- A whole struct of user data stored into, and loaded out of, a block known whole: laws that fire by themselves in a walk. Conditions: the block has the struct's cells, none frozen. -/
import Derived.Test.YtnaihmmfnffejaaDoorShut
import Derived.Laws.Tables
import Derived.Laws.Rows
namespace Go.Proofs.YtnaihmmfnffejaaDoor
open Go.RowKit Go.Lib

/-- Block g has n cells of type t, none frozen. -/
def Has (w : World) (g : Nat) (t : TypeId) (n : Nat) : Prop := ∃ old, w.heap[g]? = some (.cells old t (0, 0)) ∧ old.size = n
theorem Row.has {w : World} {g : Nat} {t : TypeId} {xs : List Value} (h : Row w g t xs) : Has w g t xs.length := ⟨_, h, by simp⟩
theorem Row.other {w : World} {g g' : Nat} {t : TypeId} {xs : List Value} (h : Row w g t xs) (hne : g ≠ g') (cs : Array Value) : Row (w.setRow g' cs) g t xs := (setRow_other w g' g cs hne).trans h
theorem Has.row {w : World} {g : Nat} {t : TypeId} {n : Nat} (h : Has w g t n) (cs : Array Value) : Row (w.setRow g cs) g t cs.toList := by
  obtain ⟨old, h1, _⟩ := h
  exact setRow_heap w g old cs t (0, 0) h1
theorem below_setRow {B : Nat} {a w : World} {g : Nat} (h : Below B a w) (hg : B ≤ g) (cs : Array Value) : Below B a (w.setRow g cs) :=
  h.trans ⟨rfl, rfl, rfl, by simp [World.setRow], fun i hi => setRow_other w g i cs (by omega)⟩

theorem zz_info : (Tryd.prog.info? 97).map (·.size) = some 9 := by kernel_rfl
theorem da_info : (Tryd.prog.info? 59).map (·.size) = some 9 := by kernel_rfl

theorem zz_store (w : World) (g : Nat) (u b e i : Bool) (k1 k2 k3 k4 : IntKind) (tsn st sq pr : Int) (A : Option Addr) (n c : Nat) (h : Has w g 97 9) :
    Sem.run Tryd.prog (Instr.storeAt 97 (.pointer (some ⟨g, 0, none⟩)) (.agg #[.bool u, .bool b, .bool e, .bool i, .int k1 tsn, .int k2 st, .int k3 sq, .int k4 pr, .slice A n c])) w
      = .ok () (w.setRow g #[.bool u, .bool b, .bool e, .bool i, .int k1 tsn, .int k2 st, .int k3 sq, .int k4 pr, .slice A n c]) := by
  obtain ⟨old, h1, h2⟩ := h
  simp only [Instr.storeAt, Instr.sureAddr, Sem.run_bind, Sem.run_pure, Result.andThen_ok]
  exact run_storeVar_row w g _ _ old _ h1 zz_info h2 (by simp [Value.oneCell'])
theorem da_store (w : World) (g : Nat) (u b e i : Bool) (k1 k2 k3 k4 : IntKind) (tsn st sq pr : Int) (A : Option Addr) (n c : Nat) (h : Has w g 59 9) :
    Sem.run Tryd.prog (Instr.storeAt 59 (.pointer (some ⟨g, 0, none⟩)) (.agg #[.bool u, .bool b, .bool e, .bool i, .int k1 tsn, .int k2 st, .int k3 sq, .int k4 pr, .slice A n c])) w
      = .ok () (w.setRow g #[.bool u, .bool b, .bool e, .bool i, .int k1 tsn, .int k2 st, .int k3 sq, .int k4 pr, .slice A n c]) := by
  obtain ⟨old, h1, h2⟩ := h
  simp only [Instr.storeAt, Instr.sureAddr, Sem.run_bind, Sem.run_pure, Result.andThen_ok]
  exact run_storeVar_row w g _ _ old _ h1 da_info h2 (by simp [Value.oneCell'])

theorem zz_load (w : World) (g : Nat) (xs : List Value) (h : Row w g 97 xs) (hl : xs.length = 9) :
    Sem.run Tryd.prog (loadVar 97 ⟨g, 0, none⟩) w = .ok (.agg xs.toArray) w :=
  run_loadVar_row w g _ _ xs.toArray (0, 0) _ h Tryd.underlying97 rfl (by rw [zz_info]; simp [hl])
theorem da_load (w : World) (g : Nat) (xs : List Value) (h : Row w g 59 xs) (hl : xs.length = 9) :
    Sem.run Tryd.prog (loadVar 59 ⟨g, 0, none⟩) w = .ok (.agg xs.toArray) w :=
  run_loadVar_row w g _ _ xs.toArray (0, 0) _ h Tryd.underlying59 rfl (by rw [da_info]; simp [hl])
end Go.Proofs.YtnaihmmfnffejaaDoor
