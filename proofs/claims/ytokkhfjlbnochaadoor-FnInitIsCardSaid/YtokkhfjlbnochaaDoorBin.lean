/- Contracts of encoding/binary's big-endian readers and writers, in the words of Mem. Conditions: the slice is long enough. -/
import Derived.Test.YtokkhfjlbnochaaDoorJoin
import Derived.Deep.QuietTactic
import Derived.BigQuiet
import Derived.Lib.EndianBits
namespace Go.Proofs.YtokkhfjlbnochaaDoor
open Go.RowKit Go.Lib

/-- l with the bytes bs laid over it from place o on. -/
def put (l : List UInt8) (o : Nat) (bs : List UInt8) : List UInt8 := l.take o ++ (bs ++ l.drop (o + bs.length))
theorem put_length (l : List UInt8) (o : Nat) (bs : List UInt8) (h : o + bs.length ≤ l.length) : (put l o bs).length = l.length := by simp [put]; omega
theorem set_eq_put (l : List UInt8) (o : Nat) (b : UInt8) (h : o < l.length) : l.set o b = put l o [b] := by
  rw [List.set_eq_take_append_cons_drop, if_pos h]; simp [put]
theorem put_put (l : List UInt8) (o : Nat) (bs cs : List UInt8) (h : o + bs.length + cs.length ≤ l.length) : put (put l o bs) (o + bs.length) cs = put l o (bs ++ cs) := by
  apply List.ext_getElem?
  intro i
  simp only [put, List.getElem?_append, List.getElem?_take, List.getElem?_drop, List.length_take, List.length_append, List.length_drop]
  grind
theorem bvs_set (l : List UInt8) (o : Nat) (b : UInt8) : (bvs l).set o (bv b) = bvs (l.set o b) := by simp [bvs, List.map_set]

/-- Bytes were written into block g, and nothing else that was there has changed. -/
def Puts (w : World) (g : Nat) (t : TypeId) (l : List UInt8) (w' : World) : Prop := Row w' g t (bvs l) ∧ w.grownBy w' (some g)

theorem Puts.start {w : World} {g : Nat} {t : TypeId} {l : List UInt8} (h : Row w g t (bvs l)) : Puts w g t l w := ⟨h, only_refl _ _⟩
theorem Puts.set {w w' : World} {g : Nat} {t : TypeId} {l : List UInt8} (h : Puts w g t l w') (o : Nat) {u : Value} (b : UInt8) (hu : u = bv b) : Puts w g t (l.set o b) (w'.setCell ⟨g, o, none⟩ u) := by
  refine ⟨?_, only_setCell h.2 (.inl rfl) u⟩
  rw [← bvs_set, ← hu]
  exact h.1.set o u
theorem Puts.alloc {w w' : World} {g : Nat} {t : TypeId} {l : List UInt8} (h : Puts w g t l w') (o : Obj) : Puts w g t l (w'.alloc o) := ⟨h.1.alloc o, only_alloc h.2 o⟩
theorem Puts.drew {w w' : World} {g : Nat} {t : TypeId} {l : List UInt8} (h : Puts w g t l w') : Puts w g t l w'.drew := ⟨h.1, only_drew h.2⟩
theorem Puts.trans {a b c : World} {g : Nat} {t : TypeId} {l m : List UInt8} (h : Puts a g t l b) (k : Puts b g t m c) : Puts a g t m c := ⟨k.1, only_trans h.2 k.2⟩
theorem set_two (l : List UInt8) (o : Nat) (a b : UInt8) (h : o + 2 ≤ l.length) : (l.set o a).set (o + 1) b = put l o [a, b] := by
  rw [set_eq_put l o a (by omega), set_eq_put _ (o + 1) b (by rw [put_length _ _ _ (by simp; omega)]; omega)]
  exact put_put l o [a] [b] (by simp; omega)
theorem set_four (l : List UInt8) (o : Nat) (a b c d : UInt8) (h : o + 4 ≤ l.length) : (((l.set o a).set (o + 1) b).set (o + 2) c).set (o + 3) d = put l o [a, b, c, d] := by
  rw [set_two l o a b (by omega), show o + 3 = (o + 2) + 1 by omega, set_two _ (o + 2) c d (by rw [put_length _ _ _ (by simp; omega)]; omega)]
  exact put_put l o [a, b] [c, d] (by simp; omega)
theorem byte_div (v : Int) (h0 : 0 ≤ v) (k : Nat) (z : Int) (hz : z = v / k % 256) : Value.int .u8 z = bv (UInt8.ofNat (v.toNat / k)) := by
  unfold bv
  obtain ⟨m, rfl⟩ := Int.eq_ofNat_of_zero_le h0
  rw [hz, Int.toNat_natCast, UInt8.toNat_ofNat']
  simp
theorem byte_mod (v : Int) (h0 : 0 ≤ v) (z : Int) (hz : z = v % 256) : Value.int .u8 z = bv (UInt8.ofNat v.toNat) := by
  unfold bv
  obtain ⟨m, rfl⟩ := Int.eq_ofNat_of_zero_le h0
  rw [hz, Int.toNat_natCast, UInt8.toNat_ofNat']
  simp

theorem put16_any (g o n c : Nat) (v : Int) (t : TypeId) (l : List UInt8) (w : World) (hr : Row w g t (bvs l)) (ho : o + 2 ≤ l.length) (hn : 2 ≤ n) (hv0 : 0 ≤ v) (hv : v ≤ 65535) :
    Calls Tryd.prog 36 #[.agg #[], .slice (some ⟨g, o, none⟩) n c, .int .u16 v] w fun e w' => e = .returned (.tuple #[]) ∧ Puts w g t (put l o (be 2 v.toNat)) w' := by
  have hc0 : w.cell? ⟨g, o, none⟩ = some (bv l[o]) := by rw [hr.cell, bvs_get _ _ (by omega)]
  have hc1 : w.cell? ⟨g, o + 1, none⟩ = some (bv l[o + 1]) := by rw [hr.cell, bvs_get _ _ (by omega)]
  have hf0 := hr.frozen o
  have hf1 := hr.frozen (o + 1)
  have hg := hr.lt
  have Hr := Lib.hid hr
  generalize bv l[o] = u0 at hc0
  generalize bv l[o + 1] = u1 at hc1
  clear hr
  have h1 : (1 : Int) < (n : Int) := by omega
  have h0 : (0 : Int) < (n : Int) := by omega
  go_enter Tryd.func36, Tryd.ntmps36
  go_wp2
  go_end0
  refine ⟨rfl, ?_⟩
  rw [be_two, ← set_two _ _ _ _ ho]
  exact (((Puts.start Hr.out).set o _ (byte_div v hv0 256 _ (by omega))).set (o + 1) _ (byte_mod v hv0 _ rfl)).alloc _

theorem put32_any (g o n c : Nat) (v : Int) (t : TypeId) (l : List UInt8) (w : World) (hr : Row w g t (bvs l)) (ho : o + 4 ≤ l.length) (hn : 4 ≤ n) (hv0 : 0 ≤ v) (hv : v ≤ 4294967295) :
    Calls Tryd.prog 48 #[.agg #[], .slice (some ⟨g, o, none⟩) n c, .int .u32 v] w fun e w' => e = .returned (.tuple #[]) ∧ Puts w g t (put l o (be 4 v.toNat)) w' := by
  have hc0 : w.cell? ⟨g, o, none⟩ = some (bv l[o]) := by rw [hr.cell, bvs_get _ _ (by omega)]
  have hc1 : w.cell? ⟨g, o + 1, none⟩ = some (bv l[o + 1]) := by rw [hr.cell, bvs_get _ _ (by omega)]
  have hc2 : w.cell? ⟨g, o + 2, none⟩ = some (bv l[o + 2]) := by rw [hr.cell, bvs_get _ _ (by omega)]
  have hc3 : w.cell? ⟨g, o + 3, none⟩ = some (bv l[o + 3]) := by rw [hr.cell, bvs_get _ _ (by omega)]
  have hf0 := hr.frozen o
  have hf1 := hr.frozen (o + 1)
  have hf2 := hr.frozen (o + 2)
  have hf3 := hr.frozen (o + 3)
  have hg := hr.lt
  have Hr := Lib.hid hr
  generalize bv l[o] = u0 at hc0
  generalize bv l[o + 1] = u1 at hc1
  generalize bv l[o + 2] = u2 at hc2
  generalize bv l[o + 3] = u3 at hc3
  clear hr
  have h3 : (3 : Int) < (n : Int) := by omega
  have h2 : (2 : Int) < (n : Int) := by omega
  have h1 : (1 : Int) < (n : Int) := by omega
  have h0 : (0 : Int) < (n : Int) := by omega
  go_enter Tryd.func48, Tryd.ntmps48
  go_wp2
  go_end0
  refine ⟨rfl, ?_⟩
  rw [be_four, ← set_four _ _ _ _ _ _ ho]
  exact (((((Puts.start Hr.out).set o _ (byte_div v hv0 16777216 _ (by omega))).set (o + 1) _ (byte_div v hv0 65536 _ (by omega))).set (o + 2) _ (byte_div v hv0 256 _ (by omega))).set (o + 3) _ (byte_mod v hv0 _ rfl)).alloc _

theorem Row.sl {w : World} {g : Nat} {t : TypeId} {l : List UInt8} (h : Row w g t (bvs l)) {n c : Nat} (hl : l.length = n) (hn : n ≤ c) (hc : c ≤ maxLen) : Sl w (.slice (some ⟨g, 0, none⟩) n c) l := by
  subst hl
  exact h.rd (by simp [bvs]) hn hc
/-- copy(d, s), d in a block known whole, s bytes that all fit: they are laid over the block from place off on. -/
theorem wpList_copy_put {P : Program} {w : World} {ops : Array Oper} {rest : List Oper} {o : Oper} {a : Act} {Q : Exit → Act → World → Prop} (hgd : o.guard = none) (d s : Operand) (dT sT : TypeId)
    (ho : o.op = .call { callee := .builtin .copy, args := #[d, s], argTypes := #[dT, sT] }) {e : TypeId} {z : Value} {bytes : Nat} (hE : ElT P dT e z 1 bytes)
    (dp : Option Addr) (dLen dCap : Nat) (hd : a.eval d = .slice dp dLen dCap) (sv : Value) (hs : a.eval s = sv) (g off : Nat) (t : TypeId) (cur src : List UInt8)
    (hrow : Row w g t (bvs cur)) (hsrc : Sl w sv src) (hn : src.length ≤ dLen) (hpos : 0 < src.length → dp = some ⟨g, off, none⟩) (hfit : off + src.length ≤ cur.length)
    (hK : ∀ w', Puts w g t (put cur off src) w' → wpList P ops Q rest (a.put o.dst (goInt src.length)) w') :
    wpList P ops Q (o :: rest) a w := by
  obtain ⟨ht, hinfo, _, _⟩ := hE
  obtain ⟨i, hi, _, hsize, _⟩ := info_parts hinfo
  have hsz : (P.info? e).map (·.size) = some 1 := by rw [hi]; simp [hsize]
  obtain ⟨A, c, rfl, hnc, hcm, hl0, h0, hc⟩ := hsrc
  rcases Nat.eq_zero_or_pos src.length with hz | hp
  · obtain rfl : src = [] := List.eq_nil_of_length_eq_zero hz
    refine wpList_copy_nothing hgd d s dT sT ho e ht hsz dp A dLen dCap _ c hd hs (by simp) ?_
    have := hK w (by simpa [put] using Puts.start hrow)
    simpa using this
  · obtain ⟨g', o', rfl, hg⟩ := hc (by omega)
    have hdp := hpos hp
    subst hdp
    refine wpList_copy_own hgd d s dT sT ho e ht hsz g off dLen dCap ⟨g', o', none⟩ _ c hd hs (bvs cur).toArray t hrow (bvs src) (by rw [bvs_length]; exact (Nat.min_eq_left hn).symm) (fun j v hj => by rw [Addr.add_lit]; exact hg j v hj)
      (by simp [bvs]; omega) (bvs_one src) ?_
    have e1 : ((bvs cur).toArray.toList.take off ++ (bvs src ++ (bvs cur).toArray.toList.drop (off + (bvs src).length))).toArray = (bvs (put cur off src)).toArray := by
      simp [put, bvs]
    rw [e1, bvs_length]
    refine hK _ ⟨setRow_heap w g _ _ t _ hrow, ⟨rfl, rfl, rfl, by simp [World.setRow], fun k hk hne => setRow_other w g k _ (by intro e; subst e; exact hne rfl)⟩⟩

theorem ret_int {k : IntKind} {a b : Int} (h : a = b) : Ending.returned (.int k a) = .returned (.int k b) := by rw [h]
theorem get16_any (A : Option Addr) (n c : Nat) (a b : UInt8) (r : List UInt8) (w : World) (h : Sl w (.slice A n c) (a :: b :: r)) :
    Calls Tryd.prog 27 #[.agg #[], .slice A n c] w fun e w' => e = .returned (.int .u16 ((ne [a, b] : Nat) : Int)) ∧ Below w.heap.size w w' := by
  have hn := h.len
  obtain ⟨A', c', hv, hnc, hcm, hl0, h0, hc⟩ := h
  injection hv with e1 e2 e3
  subst e1
  obtain ⟨g, o, rfl, hg⟩ := hc (by simp)
  have hc0 : w.cell? ⟨g, o, none⟩ = some (.int .u8 (a.toNat : Int)) := hg 0 _ rfl
  have hc1 : w.cell? ⟨g, o + 1, none⟩ = some (.int .u8 (b.toNat : Int)) := hg 1 _ rfl
  have hlt : g < w.heap.size := World.block_lt_of_cell? w _ hc0
  have hn2 : 2 ≤ n := by rw [hn]; simp
  have ha := a.toNat_lt
  have hb := b.toNat_lt
  have h1 : (1 : Int) < (n : Int) := by omega
  have h0 : (0 : Int) < (n : Int) := by omega
  generalize hA : a.toNat = x at *
  generalize hB : b.toNat = y at *
  have HA := Lib.hid hA
  have HB := Lib.hid hB
  clear hg hc h0 e2 e3 hl0 hcm hnc hn hA hB
  have h0 : (0 : Int) < (n : Int) := by omega
  go_enter Tryd.func27, Tryd.ntmps27
  go_wp2
  go_quiet (fail)
  go_wp2
  go_ret
  refine ⟨ret_int (k := .u16) ?_, below_drewN ((Below.refl _ _).alloc (Nat.le_refl _) _) _⟩
  rw [ne_two, HA.out, HB.out]
  simp (disch := omega) only [u16_or8]
  omega

theorem get32_any (A : Option Addr) (n c : Nat) (a b d e : UInt8) (r : List UInt8) (w : World) (h : Sl w (.slice A n c) (a :: b :: d :: e :: r)) :
    Calls Tryd.prog 51 #[.agg #[], .slice A n c] w fun z w' => z = .returned (.int .u32 ((ne [a, b, d, e] : Nat) : Int)) ∧ Below w.heap.size w w' := by
  have hn := h.len
  obtain ⟨A', c', hv, hnc, hcm, hl0, h0, hc⟩ := h
  injection hv with e1 e2 e3
  subst e1
  obtain ⟨g, o, rfl, hg⟩ := hc (by simp)
  have hc0 : w.cell? ⟨g, o, none⟩ = some (.int .u8 (a.toNat : Int)) := hg 0 _ rfl
  have hc1 : w.cell? ⟨g, o + 1, none⟩ = some (.int .u8 (b.toNat : Int)) := hg 1 _ rfl
  have hc2 : w.cell? ⟨g, o + 2, none⟩ = some (.int .u8 (d.toNat : Int)) := hg 2 _ rfl
  have hc3 : w.cell? ⟨g, o + 3, none⟩ = some (.int .u8 (e.toNat : Int)) := hg 3 _ rfl
  have hlt : g < w.heap.size := World.block_lt_of_cell? w _ hc0
  have hn2 : 4 ≤ n := by rw [hn]; simp
  have ha := a.toNat_lt
  have hb := b.toNat_lt
  have hd := d.toNat_lt
  have he := e.toNat_lt
  generalize hA : a.toNat = x at *
  generalize hB : b.toNat = y at *
  generalize hD : d.toNat = u at *
  generalize hE : e.toNat = v at *
  have HA := Lib.hid hA
  have HB := Lib.hid hB
  have HD := Lib.hid hD
  have HE := Lib.hid hE
  clear hg hc h0 e2 e3 hl0 hcm hnc hn hA hB hD hE
  have h3 : (3 : Int) < (n : Int) := by omega
  have h2 : (2 : Int) < (n : Int) := by omega
  have h1 : (1 : Int) < (n : Int) := by omega
  have h0 : (0 : Int) < (n : Int) := by omega
  go_enter Tryd.func51, Tryd.ntmps51
  go_wp2
  go_quiet (fail)
  go_wp2
  go_ret
  refine ⟨ret_int (k := .u32) ?_, below_drewN ((Below.refl _ _).alloc (Nat.le_refl _) _) _⟩
  rw [ne_four, HA.out, HB.out, HD.out, HE.out]
  simp (disch := omega) only [u32_or8, u32_or16, u32_or24]
  omega
end Go.Proofs.YtokkhfjlbnochaaDoor
