/- Leaves of the reassembly queue: a chunk in memory, its makers and its tests. No condition. -/
import Derived.Test.YtnlkmcbhhljajaaDoorRaU
import Derived.Laws.LoneSync
namespace Go.Proofs.YtnlkmcbhhljajaaDoor
open Go.RowKit Go.Lib

/-- A chunk's cells. -/
def ckc (b e : Bool) (tsn st sq pr : Nat) (v : Value) : List Value := [.int .u8 0, .int .u8 0, .slice none 0 0, .int .u64 0, .bool false, .bool b, .bool e, .bool false, .int .u32 (tsn : Int), .int .u16 (st : Int), .int .u16 (sq : Int), .int .u32 0, .int .u32 0, .int .u32 (pr : Int), v, .bool false, .bool false, .int .u32 0, .int .u32 0, .bool false, .bool false, .bool false, .pointer none, .pointer none, .pointer none, .bool false]

set_option maxRecDepth 20000 in
theorem zzpay_any (b e : Bool) (tsn st sq pr : Nat) (A : Option Addr) (n c : Nat) (w : World) :
    Calls Tryd.prog 14 #[.agg #[.bool false, .bool b, .bool e, .bool false, .int .u32 (tsn : Int), .int .u16 (st : Int), .int .u16 (sq : Int), .int .u32 (pr : Int), .slice A n c]] w fun z w' =>
      z = .returned (.pointer (some ⟨w.heap.size + 1, 0, none⟩)) ∧ Row w' (w.heap.size + 1) 68 (ckc b e tsn st sq pr (.slice A n c)) ∧ Below w.heap.size w w' ∧ w'.heap.size = w.heap.size + 2 := by
  go_enter Tryd.func14, Tryd.ntmps14
  go_wp2
  go_ret
  exact ⟨rfl, Row.new' _ _ _ (by rw [World.size_alloc]), ((Below.refl _ _).alloc (Nat.le_refl _) _).alloc (by rw [World.size_alloc]; omega) _, by simp⟩

theorem isid_any (g : Nat) (b e : Bool) (tsn st sq pr : Nat) (v : Value) (t : TypeId) (w : World) (h : Row w g t (ckc b e tsn st sq pr v)) :
    Calls Tryd.prog 22 #[.pointer (some ⟨g, 0, none⟩)] w fun z w' => z = .returned (.bool false) ∧ w = w' := by
  have k0 : w.cell? ⟨g, 0, none⟩ = some (.int .u8 0) := by rw [h.cell]; rfl
  have k15 : w.cell? ⟨g, 15, none⟩ = some (.bool false) := by rw [h.cell]; rfl
  clear h
  go_enter Tryd.func22, Tryd.ntmps22
  go_wp2
  go_ret
  exact ⟨rfl, rfl⟩

theorem isfr_any (g : Nat) (b e : Bool) (tsn st sq pr : Nat) (v : Value) (t : TypeId) (w : World) (h : Row w g t (ckc b e tsn st sq pr v)) :
    Calls Tryd.prog 31 #[.pointer (some ⟨g, 0, none⟩)] w fun z w' => z = .returned (.bool (!(b && e))) ∧ w = w' := by
  have k5 : w.cell? ⟨g, 5, none⟩ = some (.bool b) := by rw [h.cell]; rfl
  have k6 : w.cell? ⟨g, 6, none⟩ = some (.bool e) := by rw [h.cell]; rfl
  have k22 : w.cell? ⟨g, 22, none⟩ = some (.pointer none) := by rw [h.cell]; rfl
  clear h
  cases b <;> cases e <;>
  · go_enter Tryd.func31, Tryd.ntmps31
    go_wp2
    go_ret
    exact ⟨rfl, rfl⟩

/-- The queue's cells. -/
def qcs (si next : Nat) (ov un uc om um mp mq : Value) (nb : Int) : List Value := [.int .u16 (si : Int), .int .u16 (next : Int), .int .u32 0, ov, un, uc, om, um, mp, mq, .bool false, .int .u64 nb, .int .u32 0]

theorem hdl_any (g si next : Nat) (ov un uc om um mp mq : Value) (nb : Int) (t : TypeId) (w : World) (h : Row w g t (qcs si next ov un uc om um mp mq nb)) :
    Calls Tryd.prog 24 #[.pointer (some ⟨g, 0, none⟩)] w fun z w' => z = .returned (.bool false) ∧ w = w' := by
  have k12 : w.cell? ⟨g, 12, none⟩ = some (.int .u32 0) := by rw [h.cell]; rfl
  clear h
  go_enter Tryd.func24, Tryd.ntmps24
  go_wp2
  go_ret
  exact ⟨rfl, rfl⟩

theorem newset_any (sq pr : Nat) (w : World) :
    Calls Tryd.prog 34 #[.int .u16 (sq : Int), .int .u32 (pr : Int)] w fun z w' =>
      ∃ g, z = .returned (.pointer (some ⟨g, 0, none⟩)) ∧ Row w' g 78 [.int .u16 (sq : Int), .int .u32 (pr : Int), .slice (some ⟨w.heap.size, 0, none⟩) 0 0] ∧ Row w' w.heap.size 48 [] ∧ Below w.heap.size w w' ∧ w.heap.size ≤ g := by
  go_enter Tryd.func34, Tryd.ntmps34
  go_wp2
  go_ret
  have h0 : (w.alloc (.cells #[] 48)).heap.size = w.heap.size + 1 := World.size_alloc _ _
  exact ⟨w.heap.size + 1, rfl, Row.new' _ _ _ h0.symm, (Row.new w 48 #[]).alloc _, ((Below.refl _ _).alloc (Nat.le_refl _) _).alloc (by omega) _, by omega⟩

/-- sync/atomic.AddUint64 of what fits; LoadUint64. -/
theorem run_add64 {a : Addr} {x y : Int} {w : World} (hc : w.cell? a = some (.int .u64 x)) (hz : w.frozen? a = false) :
    (callFunc 27 #[.pointer (some a), .int .u64 y]).run Tryd.prog w = .ok (.value (.int .u64 (IntKind.u64.wrap (x + y)))) (w.setCell a (.int .u64 (IntKind.u64.wrap (x + y)))) :=
  run_call_add Tryd.func27 (by kernel_rfl) (by kernel_rfl) (by kernel_rfl) .u64 (by kernel_rfl) hc hz (by simp [Op.intArith])
theorem run_load64 {a : Addr} {x : Int} {w : World} (hc : w.cell? a = some (.int .u64 x)) :
    (callFunc 37 #[.pointer (some a)]).run Tryd.prog w = .ok (.value (.int .u64 x)) w :=
  run_call_load Tryd.func37 (by kernel_rfl) (by kernel_rfl) (by kernel_rfl) .u64 (by kernel_rfl) hc

theorem mk_sets (w : World) : (Instr.makeSlice 55 (.int .i64 0) (.int .i64 0)).run Tryd.prog w = .ok (.slice (some ⟨w.heap.size, 0, none⟩) 0 0) (w.alloc (.cells #[] 69)) := by kernel_rfl
theorem mk_mids (w : World) : (Instr.makeSlice 56 (.int .i64 0) (.int .i64 0)).run Tryd.prog w = .ok (.slice (some ⟨w.heap.size, 0, none⟩) 0 0) (w.alloc (.cells #[] 70)) := by kernel_rfl

/-- A new queue. -/
def NewRq (si : Nat) (w : World) (z : Ending) (w' : World) : Prop :=
  ∃ Q G1 G2 G3 G4 mp mq, z = .returned (.pointer (some ⟨Q, 0, none⟩)) ∧ Row w' Q 61 (qcs si 0 (.slice (some ⟨G1, 0, none⟩) 0 0) (.slice (some ⟨G2, 0, none⟩) 0 0) (.slice none 0 0) (.slice (some ⟨G3, 0, none⟩) 0 0) (.slice (some ⟨G4, 0, none⟩) 0 0) mp mq 0) ∧
    Row w' G1 69 [] ∧ w.heap.size ≤ G1 ∧ w.heap.size ≤ Q ∧ Below w.heap.size w w'

end Go.Proofs.YtnlkmcbhhljajaaDoor
