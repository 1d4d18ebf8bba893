/- Laws of single operations, over any program: append, conversion of bytes to a string, make, copy, in the words of Mem. No condition. -/
import Derived.Test.YtnlkmcbhhljajaaDoorMem
import Derived.Test.YtnlkmcbhhljajaaDoorPlain
import Derived.Laws.BytesArg
import Derived.Laws.CopyOwn
import Derived.WalkSpells
import Derived.WalkLawsBesides
namespace Go.Proofs.YtnlkmcbhhljajaaDoor
open Go.RowKit

/-- Type t is a slice type whose elements (type e) have the zero value z, 'size' cells and 'bytes' bytes. -/
def ElT (P : Program) (t e : TypeId) (z : Value) (size bytes : Nat) : Prop :=
  P.underlying t = some (.slice e) ∧ (P.info? e).map (fun i => (i.zero, i.size, i.bytes)) = some (some z, size, bytes) ∧ z.cells.size = size ∧ 0 < size

section
variable {P : Program} (w : World)

theorem run_append_rd {t e ty : TypeId} {z : Value} {size bytes : Nat} (hE : ElT P t e z size bytes) (base : Nat) (v : Value) (n : Nat) (xs : List Value) (hown : w.ownsRow base e size v n xs)
    (y : Value) (m : Nat) (news : List Value) (hr : Rd w size m y news) (h1 : ∀ u ∈ news, u.oneCell' = true)
    (h63 : n + m ≤ maxLen) (hbytes : (n + m) * bytes ≤ 140737488355328) (hbase : base ≤ w.heap.size) :
    ∃ v' w', (Builtin.append_ #[t, t] ty #[v, y]).run P w = .ok v' w' ∧ w'.ownsRow base e size v' (n + m) (xs ++ news) ∧ w.grownBy w' v.ownBlock ∧
      (v'.ownBlock = v.ownBlock ∨ v'.ownBlock = some w.heap.size) := by
  obtain ⟨ht, hinfo, hzs, hsz⟩ := hE
  obtain ⟨i, hi, hz, hsize, hby⟩ := info_parts hinfo
  obtain ⟨A, c, rfl, hn, hm, hl, h0, hc⟩ := hr
  rcases Nat.eq_zero_or_pos m with rfl | hm0
  · have hnews : news = [] := List.eq_nil_of_length_eq_zero (by simpa using hl)
    subst hnews
    rcases A with _ | ad
    · have hrun : (Builtin.append_ #[t, t] ty #[v, .slice none 0 c]).run P w = .ok v w := by
        rcases hown.2 with ⟨rfl, rfl⟩ | ⟨g, cap, cur, rfl, _, _, hnc, _⟩
        · simp [Builtin.append_, run_underlying ht, sizeOf, typeInfo, hi, Builtin.lenOf, Builtin.firstCells]
        · simp [Builtin.append_, run_underlying ht, sizeOf, typeInfo, hi, Builtin.lenOf, Builtin.firstCells, hnc, storeCells]
      exact ⟨v, w, hrun, by simpa using hown, World.grownBy.refl w _, .inl rfl⟩
    · obtain ⟨v', w', hrun, h2, h3, _, h5⟩ := run_append_own_at (P := P) w base t ty e i z size bytes ht hi hz hsize hby hzs hsz v n xs hown ad 0 c [] (by simp) (fun j u hu => by simp at hu) h1 h63 hbytes hbase
      exact ⟨v', w', hrun, h2, h3, h5⟩
  · obtain ⟨g, o, rfl, hg⟩ := hc (Nat.mul_pos hm0 hsz)
    obtain ⟨v', w', hrun, h2, h3, _, h5⟩ := run_append_own_at (P := P) w base t ty e i z size bytes ht hi hz hsize hby hzs hsz v n xs hown ⟨g, o, none⟩ m c news hl
      (fun j u hu => by rw [Addr.add_lit]; exact hg j u hu) h1 h63 hbytes hbase
    exact ⟨v', w', hrun, h2, h3, h5⟩

theorem wpList_append_rd {ops : Array Oper} {rest : List Oper} {o : Oper} {a : Act} {Q : Exit → Act → World → Prop} (hgd : o.guard = none) (s x : Operand) {t e : TypeId} {z : Value} {size bytes : Nat}
    (ho : o.op = .call { callee := .builtin .append, args := #[s, x], argTypes := #[t, t] }) (hE : ElT P t e z size bytes)
    (base : Nat) (v : Value) (n : Nat) (xs : List Value) (hs : a.eval s = v) (hown : w.ownsRow base e size v n xs)
    (y : Value) (m : Nat) (news : List Value) (hx : a.eval x = y) (hr : Rd w size m y news) (h1 : ∀ u ∈ news, u.oneCell' = true)
    (h63 : n + m ≤ maxLen) (hbytes : (n + m) * bytes ≤ 140737488355328) (hbase : base ≤ w.heap.size)
    (h : ∀ v' w', w'.ownsRow base e size v' (n + m) (xs ++ news) → w.grownBy w' v.ownBlock → (v'.ownBlock = v.ownBlock ∨ v'.ownBlock = some w.heap.size) → wpList P ops Q rest (a.put o.dst v') w') : wpList P ops Q (o :: rest) a w := by
  refine wpList_plain hgd fun K hK => ?_
  obtain ⟨v', w', hrun, h2, h3, h4⟩ := run_append_rd (P := P) w (ty := o.type) hE base v n xs hown y m news hr h1 h63 hbytes hbase
  unfold Oper.wp execOp
  simp only [ho, resolve, invoke, builtin, Sem.run_bind, Sem.run_pure, Result.andThen_ok, List.map_toArray, List.map_cons, List.map_nil, hs, hx, hrun]
  exact hK _ _ (h v' w' h2 h3 h4)

theorem step_append_rd {ops : Array Oper} {o : Oper} {a : Act} {K : Act → World → Prop} {Q : Exit → Act → World → Prop} {E : Prop} (hgd : o.guard = none) (s x : Operand) {t e : TypeId} {z : Value} {size bytes : Nat}
    (ho : o.op = .call { callee := .builtin .append, args := #[s, x], argTypes := #[t, t] }) (hE : ElT P t e z size bytes)
    (base : Nat) (v : Value) (n : Nat) (xs : List Value) (hs : a.eval s = v) (hown : w.ownsRow base e size v n xs)
    (y : Value) (m : Nat) (news : List Value) (hx : a.eval x = y) (hr : Rd w size m y news) (h1 : ∀ u ∈ news, u.oneCell' = true)
    (h63 : n + m ≤ maxLen) (hbytes : (n + m) * bytes ≤ 140737488355328) (hbase : base ≤ w.heap.size)
    (h : ∀ v' w', w'.ownsRow base e size v' (n + m) (xs ++ news) → w.grownBy w' v.ownBlock → (v'.ownBlock = v.ownBlock ∨ v'.ownBlock = some w.heap.size) → K (a.put o.dst v') w') :
    if Region.wanted o (yielded ops a.tmps) = true then Oper.wp P o a w K Q else E := by
  have hw : Region.wanted o (yielded ops a.tmps) = true := by simp [Region.wanted, hgd]
  rw [if_pos hw]
  obtain ⟨v', w', hrun, h2, h3, h4⟩ := run_append_rd (P := P) w (ty := o.type) hE base v n xs hown y m news hr h1 h63 hbytes hbase
  unfold Oper.wp execOp
  simp only [ho, resolve, invoke, builtin, Sem.run_bind, Sem.run_pure, Result.andThen_ok, List.map_toArray, List.map_cons, List.map_nil, hs, hx, hrun]
  exact h v' w' h2 h3 h4

/-- Bytes as a string. -/
theorem run_conv_sl {src dst e : TypeId} (hs : P.underlying src = some (.slice e)) (he : P.underlying e = some (.int .u8)) (hd : P.underlying dst = some .string) {v : Value} {l : List UInt8} (h : Sl w v l) :
    (convert src dst v).run P w = .ok (.string ⟨l.toArray⟩) w := by
  obtain ⟨A, c, rfl, hn, hm, hl, h0, hc⟩ := h
  rcases Nat.eq_zero_or_pos l.length with hz | hp
  · obtain rfl : l = [] := List.eq_nil_of_length_eq_zero hz
    rw [run_convert_bytes_string w src dst e _ _ c hs he hd]
    cases A <;> simp [Conv.bytesToString, loadCells, loadCellsFrom] <;> rfl
  · obtain ⟨g, o, rfl, hg⟩ := hc (by omega)
    have hr := run_convert_bytes_arg (P := P) w src e hs he g o l.length c (l.map fun b => (b.toNat : Int)) (by simp) (fun i hi => by
      rw [hg i (bv l[i]) (bvs_get l i hi)]
      simp [bv, List.getD, hi]) dst hd
    rw [hr]
    congr 2
    simp [strOfNums, Function.comp_def]

/-- The cells of n zeros. -/
theorem made_zero (z : Value) (hz : z.cells = #[z]) (n : Nat) : (madeCells z.cells n).toList = List.replicate n z := by
  rw [hz]
  apply List.ext_getElem
  · simp [madeCells]
  · intro i h1 h2
    simp [madeCells, Nat.mod_one]

/-- make([]T, n), T of one cell: a block of its own, known whole. -/
theorem wpList_make_row {ops : Array Oper} {rest : List Oper} {o : Oper} {a : Act} {Q : Exit → Act → World → Prop}
    (hg : o.guard = none) (l c : Operand) (t : TypeId) (hop : o.op = Op.makeSlice t l c) {e : TypeId} {z : Value} {bytes : Nat} (hE : ElT P t e z 1 bytes) (hz : z.cells = #[z])
    (kl kc : IntKind) (L C : Int) (n : Nat) (hl : a.eval l = .int kl L) (hc : a.eval c = .int kc C) (hL : L = (n : Int)) (hC : C = (n : Int)) (b2 : bytes * n ≤ 281474976710656) (b3 : n ≤ maxLen)
    (hK : ∀ w', Row w' w.heap.size e (List.replicate n z) → Below w.heap.size w w' → wpList P ops Q rest (a.put o.dst (.slice (some ⟨w.heap.size, 0, none⟩) n n)) w') :
    wpList P ops Q (o :: rest) a w := by
  obtain ⟨ht, hinfo, hzs, hsz⟩ := hE
  obtain ⟨i, hi, hz', hsize, hby⟩ := info_parts hinfo
  refine wpList_plain hg fun K hK' => ?_
  have hb' : (i.bytes : Int) * (n : Int) ≤ 281474976710656 := by
    have h : ((i.bytes * n : Nat) : Int) ≤ 281474976710656 := by rw [hby]; omega
    rwa [Int.natCast_mul] at h
  have hrun := run_make (P := P) w t e i z ht hi hz' kl kc n n (by omega) (Int.le_refl _) hb' (by unfold maxLen at b3; omega)
  subst hL
  subst hC
  unfold Oper.wp
  simp [execOp, hop, hl, hc, hrun, Result.andThen]
  refine hK' _ _ (hK _ ?_ ((Below.refl _ _).alloc (Nat.le_refl _) _))
  have h1 := Row.new w e (madeCells z.cells n)
  rw [made_zero z hz n] at h1
  simpa [hsize] using h1
end
end Go.Proofs.YtnlkmcbhhljajaaDoor
