/- Lists of structs in memory. No condition. -/
import Derived.Test.YtnlkmcbhhljajaaDoorRaD
import Derived.Deep.MidRow
import Derived.Laws.Tables
import Derived.Deep.WholeRow
namespace Go.Proofs.YtnlkmcbhhljajaaDoor
open Go.RowKit Go.Lib

/-- The cells of a list of structs. -/
def flat {α : Type} (f : α → List Value) (ds : List α) : List Value := (ds.map f).flatten
theorem flat_nil {α : Type} (f : α → List Value) : flat f [] = [] := rfl
theorem flat_append {α : Type} (f : α → List Value) (a b : List α) : flat f (a ++ b) = flat f a ++ flat f b := by simp [flat]
theorem flat_one {α : Type} (f : α → List Value) (a : α) : flat f [a] = f a := by simp [flat]
theorem flat_length {α : Type} {f : α → List Value} {k : Nat} (hf : ∀ a, (f a).length = k) (ds : List α) : (flat f ds).length = ds.length * k := by
  unfold flat
  induction ds with
  | nil => simp
  | cons a l ih => simp only [List.map_cons, List.flatten_cons, List.length_append, ih, hf, List.length_cons, Nat.add_mul]; omega
theorem flat_get {α : Type} {f : α → List Value} {k : Nat} (hf : ∀ a, (f a).length = k) : ∀ {ds : List α} {i : Nat} {d : α} {c : Nat} {u : Value}, ds[i]? = some d → (f d)[c]? = some u → (flat f ds)[i * k + c]? = some u := by
  intro ds
  induction ds with
  | nil => intro i d c u h; simp at h
  | cons a l ih =>
    intro i d c u h hu
    have hc : c < k := by rw [← hf d]; exact (List.getElem?_eq_some_iff.1 hu).1
    have e : flat f (a :: l) = f a ++ flat f l := rfl
    rw [e]
    cases i with
    | zero =>
      simp only [List.getElem?_cons_zero, Option.some.injEq] at h
      subst h
      rw [Nat.zero_mul, Nat.zero_add, List.getElem?_append_left (by rw [hf]; exact hc)]
      exact hu
    | succ i =>
      simp only [List.getElem?_cons_succ] at h
      rw [Nat.succ_mul, List.getElem?_append_right (by rw [hf]; omega), hf, show i * k + k + c - k = i * k + c by omega]
      exact ih h hu
/-- The i-th struct of a list lies at its place. -/
theorem Rd.el {α : Type} {w : World} {f : α → List Value} {k n c : Nat} {A : Option Addr} {ds : List α} {i : Nat} {d : α} (h : Rd w k n (.slice A n c) (flat f ds)) (hf : ∀ a, (f a).length = k) (hk : 0 < k) (hd : ds[i]? = some d) :
    ∃ g o, A = some ⟨g, o, none⟩ ∧ ∀ b u, (f d)[b]? = some u → w.cell? ⟨g, o + i * k + b, none⟩ = some u := by
  obtain ⟨A', c', hv, _, _, hl, _, hc⟩ := h
  injection hv with e1 _ _
  subst e1
  have hi := (List.getElem?_eq_some_iff.1 hd).1
  rw [flat_length hf] at hl
  have hpos : 0 < n * k := by
    rw [← hl]
    exact Nat.mul_pos (by omega) hk
  obtain ⟨g, o, hA, hg⟩ := hc hpos
  exact ⟨g, o, hA, fun b u hb => by rw [Nat.add_assoc]; exact hg _ u (flat_get hf hd hb)⟩
theorem load_mid {P : Program} {w : World} {g o : Nat} {ty : TypeId} {cs : List Value} {d : TypeDesc} (hc : ∀ b u, cs[b]? = some u → w.cell? ⟨g, o + b, none⟩ = some u) (hu : P.underlying ty = some d) (hd : d.isRow = true) (hi : (P.info? ty).map (·.size) = some cs.length) :
    (Instr.loadAt ty (.pointer (some ⟨g, o, none⟩))).run P w = .ok (.agg cs.toArray) w := run_loadAt_mid w g o ty cs d (fun j v hv => hc j v hv) hu hd hi

/-- The cells of a piece as sctp.ZZData, as impl.Data. -/
def zcs (first st : Nat) (d : Value × Pc) : List Value := [.bool false, .bool d.2.b, .bool d.2.e, .bool false, .int .u32 (tsnOf first d.2.t : Nat), .int .u16 (st : Int), .int .u16 (d.2.k : Int), .int .u32 ((50 + d.2.k : Nat) : Int), d.1]
def dcs (first st : Nat) (d : Value × Pc) : List Value := [.bool false, .bool d.2.b, .bool d.2.e, .bool false, .int .u32 (tsnOf first d.2.t : Nat), .int .i64 (st : Int), .int .i64 (d.2.k : Int), .int .u32 ((50 + d.2.k : Nat) : Int), d.1]
theorem zcs_length (first st : Nat) (d : Value × Pc) : (zcs first st d).length = 9 := rfl
theorem dcs_length (first st : Nat) (d : Value × Pc) : (dcs first st d).length = 9 := rfl
theorem da_info : (Tryd.prog.info? 36).map (·.size) = some 9 := by kernel_rfl

/-- A struct stored into the block that was made for it. -/
theorem store_new {P : Program} {w : World} {t : TypeId} {c c' : Array Value} (hi : (P.info? t).map (·.size) = some c'.size) (ho : c.size = c'.size) (h1 : c'.all (·.oneCell') = true) :
    (Instr.storeAt t (.pointer (some ⟨w.heap.size, 0, none⟩)) (.agg c')).run P (w.alloc (.cells c t)) = .ok () (w.alloc (.cells c' t)) := by
  simp only [Instr.storeAt, Instr.sureAddr, Sem.run_bind, Sem.run_pure, Result.andThen_ok]
  rw [run_storeVar_row _ _ t t c c' (heap_alloc_new w _) hi ho h1, World.setRow_alloc_new]
theorem load_new {P : Program} {w : World} {t : TypeId} {c : Array Value} {d : TypeDesc} (hu : P.underlying t = some d) (hd : (match d with | .struct _ | .array _ _ => true | _ => false) = true) (hi : (P.info? t).map (·.size) = some c.size) :
    (Instr.loadAt t (.pointer (some ⟨w.heap.size, 0, none⟩))).run P (w.alloc (.cells c t)) = .ok (.agg c) (w.alloc (.cells c t)) := by
  simp only [Instr.loadAt, Instr.sureAddr, Sem.run_bind, Sem.run_pure, Result.andThen_ok]
  exact run_loadVar_row _ _ t t c (0, 0) _ (heap_alloc_new w _) hu hd hi
theorem wpList_store_new {P : Program} {ops : Array Oper} {rest : List Oper} {o : Oper} {a : Act} {w : World} {Q : Exit → Act → World → Prop} {ty : TypeId} {c : Array Value} (hgd : o.guard = none) (x y : Operand) (c' : Array Value) (ho : o.op = .store ty x y)
    (hx : a.eval x = .pointer (some ⟨w.heap.size, 0, none⟩)) (hy : a.eval y = .agg c') (hi : (P.info? ty).map (·.size) = some c'.size) (hs : c.size = c'.size) (h1 : c'.all (·.oneCell') = true)
    (h : wpList P ops Q rest (a.put o.dst undef) (w.alloc (.cells c' ty))) : wpList P ops Q (o :: rest) a (w.alloc (.cells c ty)) := by
  refine wpList_plain hgd fun K hK => ?_
  unfold Oper.wp execOp
  simp only [ho, hx, hy, store_new hi hs h1, Sem.run_bind, Sem.run_pure, Result.andThen_ok]
  exact hK _ _ h
theorem wpList_load_new {P : Program} {ops : Array Oper} {rest : List Oper} {o : Oper} {a : Act} {w : World} {Q : Exit → Act → World → Prop} {ty : TypeId} {c : Array Value} (hgd : o.guard = none) (x : Operand) (ho : o.op = .load ty x)
    (hx : a.eval x = .pointer (some ⟨w.heap.size, 0, none⟩)) (d : TypeDesc) (hu : P.underlying ty = some d) (hd : (match d with | .struct _ | .array _ _ => true | _ => false) = true) (hi : (P.info? ty).map (·.size) = some c.size)
    (h : wpList P ops Q rest (a.put o.dst (.agg c)) (w.alloc (.cells c ty))) : wpList P ops Q (o :: rest) a (w.alloc (.cells c ty)) := by
  refine wpList_plain hgd fun K hK => ?_
  unfold Oper.wp execOp
  simp only [ho, hx, load_new hu hd hi, Sem.run_bind, Sem.run_pure, Result.andThen_ok]
  exact hK _ _ h
end Go.Proofs.YtnlkmcbhhljajaaDoor
