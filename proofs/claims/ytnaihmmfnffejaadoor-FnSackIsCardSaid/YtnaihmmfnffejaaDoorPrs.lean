/- Contracts of halves and pairs: lists of pairs, of ints and of 16 bits. Conditions: the numbers fit 16 bits. -/
import Derived.Test.YtnaihmmfnffejaaDoorUnm
namespace Go.Proofs.YtnaihmmfnffejaaDoor
open Go.RowKit Go.Lib

/-- Pairs as cells. -/
def prs (k : IntKind) (l : List (Int × Int)) : List Value := l.flatMap fun p => [.int k p.1, .int k p.2]
theorem prs_length (k : IntKind) (l : List (Int × Int)) : (prs k l).length = l.length * 2 := by
  induction l with
  | nil => rfl
  | cons a l ih => simp only [prs, List.flatMap_cons, List.length_append, List.length_cons, List.length_nil] at ih ⊢; omega
theorem prs_get (k : IntKind) (l : List (Int × Int)) (j : Nat) (p : Int × Int) (h : l[j]? = some p) : (prs k l)[j * 2]? = some (.int k p.1) ∧ (prs k l)[j * 2 + 1]? = some (.int k p.2) := by
  induction l generalizing j with
  | nil => simp at h
  | cons a l ih =>
    cases j with
    | zero => simp at h; subst h; exact ⟨rfl, rfl⟩
    | succ j =>
      obtain ⟨h1, h2⟩ := ih j (by simpa using h)
      have e : prs k (a :: l) = .int k a.1 :: .int k a.2 :: prs k l := rfl
      rw [e]
      exact ⟨by rw [show (j + 1) * 2 = j * 2 + 1 + 1 by omega]; simpa using h1, by rw [show (j + 1) * 2 + 1 = j * 2 + 1 + 1 + 1 by omega]; simpa using h2⟩
theorem prs_take (k : IntKind) (l : List (Int × Int)) (j : Nat) (p : Int × Int) (h : l[j]? = some p) : prs k (l.take (j + 1)) = prs k (l.take j) ++ [.int k p.1, .int k p.2] := by
  rw [List.take_add_one, h]; simp [prs]

/-- A call that returns a slice of elements of 'size' cells. -/
def RetRd (w : World) (size n : Nat) (xs : List Value) (e : Ending) (w' : World) : Prop := ∃ A c, e = .returned (.slice A n c) ∧ Rd w' size n (.slice A n c) xs ∧ Below w.heap.size w w'
theorem RetRd.mk {w w' : World} {size n : Nat} {xs : List Value} {v : Value} (h : Rd w' size n v xs) (hb : Below w.heap.size w w') : RetRd w size n xs (.returned v) w' := by
  have h' := h
  obtain ⟨A, c, rfl, _⟩ := h
  exact ⟨A, c, rfl, h', hb⟩

theorem Rd.lit2 {g : Nat} (w : World) (e : TypeId) (a b : Value) (h : g = w.heap.size) : Rd (w.alloc (.cells #[a, b] e)) 2 1 (.slice (some ⟨g, 0, none⟩) 1 1) [a, b] := by
  subst h
  exact (Row.new w e #[a, b]).rd (by simp) (Nat.le_refl _) (by unfold maxLen; omega)
theorem prs_rel {B : Nat} {w wr w1 : World} {v v1 : Value} {E : TypeId} {k : Nat} {K : IntKind} {l : List (Int × Int)} {x : Int × Int} (hx : l[k]? = some x) (hb : Below B w wr) (hbs : B ≤ wr.heap.size) {o1 o2 : Obj}
    (hown : wr.ownsRow B E 2 v k (prs K (l.take k))) (hown1 : w1.ownsRow B E 2 v1 (k + 1) (prs K (l.take k) ++ [.int K x.1, .int K x.2])) (hg1 : ((wr.alloc o1).alloc o2).grownBy w1 v.ownBlock) :
    w1.ownsRow B E 2 v1 (k + 1) (prs K (l.take (k + 1))) ∧ Below B w w1 := by
  refine ⟨by rw [prs_take K l k x hx]; exact hown1, ((hb.alloc hbs o1).alloc (by simp; omega) o2).grown hg1 (by simp; omega) (fun j hj => (hown.lt j hj).1)⟩
theorem h2T : ElT Tryd.prog 82 126 (.agg #[.int .u16 0, .int .u16 0]) 2 4 := ⟨Tryd.underlying82, by kernel_rfl, rfl, by decide⟩
theorem p2T : ElT Tryd.prog 41 50 (.agg #[.int .i64 0, .int .i64 0]) 2 16 := ⟨Tryd.underlying41, by kernel_rfl, rfl, by decide⟩

set_option maxRecDepth 20000 in
theorem halves_any (v : Value) (l : List (Int × Int)) (w : World) (h : Rd w 2 l.length v (prs .i64 l)) (hl : l.length ≤ 1000000) (hr : ∀ p ∈ l, 0 ≤ p.1 ∧ p.1 ≤ 65535 ∧ 0 ≤ p.2 ∧ p.2 ≤ 65535) :
    Calls Tryd.prog 51 #[v] w (RetRd w 2 l.length (prs .u16 l)) := by
  obtain ⟨n, hn⟩ : ∃ n, n = l.length := ⟨_, rfl⟩
  rw [← hn] at h hl ⊢
  obtain ⟨A, c, rfl, hnc, hcm, hl0, h0, hc⟩ := h
  have HC := Lib.hid hc
  have Hn := Lib.hid hn
  have HR := Lib.hid hr
  clear hc h0 hl0 hr hn
  unfold maxLen at hcm
  go_enter Tryd.func51, Tryd.ntmps51
  go_wp2
  go_loopw [3, 8] (fun v i wr => ∃ k : Nat, k ≤ n ∧ i = .int .i64 k ∧ wr.ownsRow w.heap.size 126 2 v k (prs .u16 (l.take k)) ∧ Below w.heap.size w wr) (fun _ i _ => n - (intOf i).toNat)
  case atStart => exact ⟨0, Nat.zero_le _, rfl, World.ownsRow_nil _ _ _ _, Below.refl _ _⟩
  case round =>
    obtain ⟨k, hk, rfl, hown, hb⟩ := hrel
    by_cases hlt : k < n
    · obtain ⟨g, o, rfl, hg⟩ := HC.out (by omega)
      have hlk : k < l.length := by have := Hn.out; omega
      have hx : l[k]? = some l[k] := List.getElem?_eq_getElem hlk
      obtain ⟨ha, hb2, ha', hb2'⟩ := HR.out _ (List.getElem_mem hlk)
      generalize l[k] = x at hx ha hb2 ha' hb2'
      obtain ⟨x1, x2⟩ := x
      simp only at ha hb2 ha' hb2'
      obtain ⟨g1, g2⟩ := prs_get .i64 l k _ hx
      have hc1 : wr.cell? ⟨g, o + k * 2, none⟩ = some (.int .i64 x1) := by
        have h1 := hg _ _ g1
        exact (hb.cell (World.block_lt_of_cell? w _ h1)).trans h1
      have hc2 : wr.cell? ⟨g, o + k * 2 + 1, none⟩ = some (.int .i64 x2) := by
        have h1 := hg _ _ g2
        rw [← Nat.add_assoc] at h1
        exact (hb.cell (World.block_lt_of_cell? w _ h1)).trans h1
      have hbs := hb.size
      have Hx := Lib.hid hx
      have Hown := Lib.hid hown
      have hw1 : IntKind.u16.wrap x1 = x1 := by simp [IntKind.wrap, IntKind.bits, IntKind.signed]; omega
      have hw2 : IntKind.u16.wrap x2 = x2 := by simp [IntKind.wrap, IntKind.bits, IntKind.signed]; omega
      clear hx g1 g2 hg hown
      go_wp2_with (at_builtin; refine wpList_append_rd _ rfl _ _ rfl h2T w.heap.size _ k _ rfl ((Hown.out.alloc _).alloc _) _ 1 [_, _] rfl (Rd.lit2 _ _ _ _ (by simp)) ?c1 ?c2 ?c3 ?c4 ?_)
      case c1 => simp [Value.oneCell']
      case c2 => unfold maxLen; omega
      case c3 => omega
      case c4 => simp; omega
      intro v1 w1 hown1 hg1 _
      obtain ⟨hown', hb'⟩ := prs_rel Hx.out hb hbs Hown.out hown1 hg1
      clear hown1 hg1 Hown hb hc1 hc2 hw1 hw2
      go_wp2
      go_roundw
      case rel => exact ⟨k + 1, by omega, by go_num, hown', hb'⟩
      case measure => simp [intOf]; omega
    · obtain rfl : k = n := by omega
      go_wp2
      go_ret
      have hn := Hn.out
      refine RetRd.mk (Rd.of_own (e := 126) (base := w.heap.size) ?_) hb
      rw [hn, List.take_length] at hown
      rw [hn]
      exact hown

set_option maxRecDepth 20000 in
theorem pairs_any (v : Value) (l : List (Int × Int)) (w : World) (h : Rd w 2 l.length v (prs .u16 l)) (hl : l.length ≤ 1000000) (hr : ∀ p ∈ l, 0 ≤ p.1 ∧ p.1 ≤ 65535 ∧ 0 ≤ p.2 ∧ p.2 ≤ 65535) :
    Calls Tryd.prog 53 #[v] w (RetRd w 2 l.length (prs .i64 l)) := by
  obtain ⟨n, hn⟩ : ∃ n, n = l.length := ⟨_, rfl⟩
  rw [← hn] at h hl ⊢
  obtain ⟨A, c, rfl, hnc, hcm, hl0, h0, hc⟩ := h
  have HC := Lib.hid hc
  have Hn := Lib.hid hn
  have HR := Lib.hid hr
  clear hc h0 hl0 hr hn
  unfold maxLen at hcm
  go_enter Tryd.func53, Tryd.ntmps53
  go_wp2
  go_loopw [3, 8] (fun v i wr => ∃ k : Nat, k ≤ n ∧ i = .int .i64 k ∧ wr.ownsRow w.heap.size 50 2 v k (prs .i64 (l.take k)) ∧ Below w.heap.size w wr) (fun _ i _ => n - (intOf i).toNat)
  case atStart => exact ⟨0, Nat.zero_le _, rfl, World.ownsRow_nil _ _ _ _, Below.refl _ _⟩
  case round =>
    obtain ⟨k, hk, rfl, hown, hb⟩ := hrel
    by_cases hlt : k < n
    · obtain ⟨g, o, rfl, hg⟩ := HC.out (by omega)
      have hlk : k < l.length := by have := Hn.out; omega
      have hx : l[k]? = some l[k] := List.getElem?_eq_getElem hlk
      obtain ⟨ha, hb2, ha', hb2'⟩ := HR.out _ (List.getElem_mem hlk)
      generalize l[k] = x at hx ha hb2 ha' hb2'
      obtain ⟨x1, x2⟩ := x
      simp only at ha hb2 ha' hb2'
      obtain ⟨g1, g2⟩ := prs_get .u16 l k _ hx
      have hc1 : wr.cell? ⟨g, o + k * 2, none⟩ = some (.int .u16 x1) := by
        have h1 := hg _ _ g1
        exact (hb.cell (World.block_lt_of_cell? w _ h1)).trans h1
      have hc2 : wr.cell? ⟨g, o + k * 2 + 1, none⟩ = some (.int .u16 x2) := by
        have h1 := hg _ _ g2
        rw [← Nat.add_assoc] at h1
        exact (hb.cell (World.block_lt_of_cell? w _ h1)).trans h1
      have hbs := hb.size
      have Hx := Lib.hid hx
      have Hown := Lib.hid hown
      have hw1 : IntKind.i64.wrap x1 = x1 := by simp [IntKind.wrap, IntKind.bits, IntKind.signed]; omega
      have hw2 : IntKind.i64.wrap x2 = x2 := by simp [IntKind.wrap, IntKind.bits, IntKind.signed]; omega
      clear hx g1 g2 hg hown
      go_wp2_with (at_builtin; refine wpList_append_rd _ rfl _ _ rfl p2T w.heap.size _ k _ rfl ((Hown.out.alloc _).alloc _) _ 1 [_, _] rfl (Rd.lit2 _ _ _ _ (by simp)) ?c1 ?c2 ?c3 ?c4 ?_)
      case c1 => simp [Value.oneCell']
      case c2 => unfold maxLen; omega
      case c3 => omega
      case c4 => simp; omega
      intro v1 w1 hown1 hg1 _
      obtain ⟨hown', hb'⟩ := prs_rel Hx.out hb hbs Hown.out hown1 hg1
      clear hown1 hg1 Hown hb hc1 hc2 hw1 hw2
      go_wp2
      go_roundw
      case rel => exact ⟨k + 1, by omega, by go_num, hown', hb'⟩
      case measure => simp [intOf]; omega
    · obtain rfl : k = n := by omega
      go_wp2
      go_ret
      have hn := Hn.out
      refine RetRd.mk (Rd.of_own (e := 50) (base := w.heap.size) ?_) hb
      rw [hn, List.take_length] at hown
      rw [hn]
      exact hown
end Go.Proofs.YtnaihmmfnffejaaDoor
