/- Contracts of zzGaps, pairs, getcumulativeTSN and popDuplicates. Conditions: the numbers fit. -/
import Derived.Test.YtbmnpadpjbcljaaDoorRvG
namespace Go.Proofs.YtbmnpadpjbcljaaDoor
open Go.RowKit Go.Lib

/-- Pairs as cells. -/
def prs (k : IntKind) (l : List (Int × Int)) : List Value := l.flatMap fun p => [.int k p.1, .int k p.2]
theorem prs_length (k : IntKind) (l : List (Int × Int)) : (prs k l).length = l.length * 2 := by
  induction l with
  | nil => rfl
  | cons a l ih => simp only [prs, List.flatMap_cons, List.length_append, List.length_cons, List.length_nil] at ih ⊢; omega
theorem prs_get (k : IntKind) (l : List (Int × Int)) (j : Nat) (p : Int × Int) (h : l[j]? = some p) : (prs k l)[j * 2]? = some (.int k p.1) ∧ (prs k l)[j * 2 + 1]? = some (.int k p.2) := by
  induction l generalizing j with
  | nil => simp at h
  | cons a l ih =>
    cases j with
    | zero => simp at h; subst h; exact ⟨rfl, rfl⟩
    | succ j =>
      obtain ⟨h1, h2⟩ := ih j (by simpa using h)
      have e : prs k (a :: l) = .int k a.1 :: .int k a.2 :: prs k l := rfl
      rw [e]
      exact ⟨by rw [show (j + 1) * 2 = j * 2 + 1 + 1 by omega]; simpa using h1, by rw [show (j + 1) * 2 + 1 = j * 2 + 1 + 1 + 1 by omega]; simpa using h2⟩
theorem prs_take (k : IntKind) (l : List (Int × Int)) (j : Nat) (p : Int × Int) (h : l[j]? = some p) : prs k (l.take (j + 1)) = prs k (l.take j) ++ [.int k p.1, .int k p.2] := by
  rw [List.take_add_one, h]; simp [prs]

theorem prs_rel {B : Nat} {w wr w1 : World} {v v1 : Value} {E : TypeId} {k : Nat} {K : IntKind} {l : List (Int × Int)} {x : Int × Int} (hx : l[k]? = some x) (hb : Below B w wr) (hbs : B ≤ wr.heap.size) {o1 o2 : Obj}
    (hown : wr.ownsRow B E 2 v k (prs K (l.take k))) (hown1 : w1.ownsRow B E 2 v1 (k + 1) (prs K (l.take k) ++ [.int K x.1, .int K x.2])) (hg1 : ((wr.alloc o1).alloc o2).grownBy w1 v.ownBlock) :
    w1.ownsRow B E 2 v1 (k + 1) (prs K (l.take (k + 1))) ∧ Below B w w1 := by
  refine ⟨by rw [prs_take K l k x hx]; exact hown1, ((hb.alloc hbs o1).alloc (by simp; omega) o2).grown hg1 (by simp; omega) (fun j hj => (hown.lt j hj).1)⟩
theorem h2T : ElT Tryd.prog 35 50 (.agg #[.int .u16 0, .int .u16 0]) 2 4 := ⟨Tryd.underlying35, by kernel_rfl, rfl, by decide⟩
theorem p2T : ElT Tryd.prog 24 32 (.agg #[.int .i64 0, .int .i64 0]) 2 16 := ⟨Tryd.underlying24, by kernel_rfl, rfl, by decide⟩

theorem pr_cells {w wr : World} {g o : Nat} {k : IntKind} {l : List (Int × Int)} {j : Nat} {p : Int × Int} (hg : ∀ (j : Nat) (u : Value), (prs k l)[j]? = some u → w.cell? ⟨g, o + j, none⟩ = some u) (hb : Below w.heap.size w wr) (h : l[j]? = some p) :
    wr.cell? ⟨g, o + j * 2, none⟩ = some (.int k p.1) ∧ wr.cell? ⟨g, o + j * 2 + 1, none⟩ = some (.int k p.2) := by
  obtain ⟨g1, g2⟩ := prs_get k l j p h
  have h1 := hg _ _ g1
  have h2 := hg _ _ g2
  rw [← Nat.add_assoc] at h2
  exact ⟨(hb.cell (World.block_lt_of_cell? w _ h1)).trans h1, (hb.cell (World.block_lt_of_cell? w _ h2)).trans h2⟩
set_option maxRecDepth 20000 in
theorem gaps_any (v : Value) (l : List (Int × Int)) (w : World) (h : Rd w 2 l.length v (prs .u16 l)) (hl : l.length ≤ 1000000) :
    Calls Tryd.prog 14 #[v] w (RetRd w 2 l.length (prs .u16 l)) := by
  obtain ⟨n, hn⟩ : ∃ n, n = l.length := ⟨_, rfl⟩
  rw [← hn] at h hl ⊢
  obtain ⟨A, c, rfl, hnc, hcm, hl0, h0, hc⟩ := h
  have HC := Lib.hid hc
  have Hn := Lib.hid hn
  clear hc h0 hl0 hn
  unfold maxLen at hcm
  go_enter Tryd.func14, Tryd.ntmps14
  go_wp2
  go_loopw [3, 8] (fun v i wr => ∃ k : Nat, k ≤ n ∧ i = .int .i64 k ∧ wr.ownsRow w.heap.size 50 2 v k (prs .u16 (l.take k)) ∧ Below w.heap.size w wr) (fun _ i _ => n - (intOf i).toNat)
  case atStart => exact ⟨0, Nat.zero_le _, rfl, World.ownsRow_nil _ _ _ _, Below.refl _ _⟩
  case round =>
    obtain ⟨k, hk, rfl, hown, hb⟩ := hrel
    by_cases hlt : k < n
    · obtain ⟨g, o, rfl, hg⟩ := HC.out (by omega)
      have hlk : k < l.length := by have := Hn.out; omega
      have hx : l[k]? = some l[k] := List.getElem?_eq_getElem hlk
      generalize l[k] = x at hx
      obtain ⟨x1, x2⟩ := x
      obtain ⟨hc1, hc2⟩ := pr_cells hg hb hx
      have hbs := hb.size
      have Hx := Lib.hid hx
      have Hown := Lib.hid hown
      clear hx hg hown
      go_wp2_with (at_builtin; refine wpList_append_rd _ rfl _ _ rfl h2T w.heap.size _ k _ rfl ((Hown.out.alloc _).alloc _) _ 1 [_, _] rfl (Rd.lit2 _ _ _ _ (by simp)) ?c1 ?c2 ?c3 ?c4 ?_)
      case c1 => first | exact ⟨rfl, rfl⟩ | simp [Value.oneCell']
      case c2 => unfold maxLen; omega
      case c3 => omega
      case c4 => first | omega | (simp; omega)
      intro v1 w1 hown1 hg1 _
      obtain ⟨hown', hb'⟩ := prs_rel Hx.out hb hbs Hown.out hown1 hg1
      clear hown1 hg1 Hown hb hc1 hc2
      go_wp2
      go_roundw
      case rel => exact ⟨k + 1, by omega, by go_num, hown', hb'⟩
      case measure => simp [intOf]; omega
    · obtain rfl : k = n := by omega
      go_wp2
      go_ret
      have hn := Hn.out
      refine RetRd.mk (Rd.of_own (e := 50) (base := w.heap.size) ?_) hb
      rw [hn, List.take_length] at hown
      rw [hn]
      exact hown

set_option maxRecDepth 20000 in
theorem pairs_any (v : Value) (l : List (Int × Int)) (w : World) (h : Rd w 2 l.length v (prs .u16 l)) (hl : l.length ≤ 1000000) (hr : ∀ p ∈ l, 0 ≤ p.1 ∧ p.1 ≤ 65535 ∧ 0 ≤ p.2 ∧ p.2 ≤ 65535) :
    Calls Tryd.prog 8 #[v] w (RetRd w 2 l.length (prs .i64 l)) := by
  obtain ⟨n, hn⟩ : ∃ n, n = l.length := ⟨_, rfl⟩
  rw [← hn] at h hl ⊢
  obtain ⟨A, c, rfl, hnc, hcm, hl0, h0, hc⟩ := h
  have HC := Lib.hid hc
  have Hn := Lib.hid hn
  have HR := Lib.hid hr
  clear hc h0 hl0 hr hn
  unfold maxLen at hcm
  go_enter Tryd.func8, Tryd.ntmps8
  go_wp2
  go_loopw [3, 8] (fun v i wr => ∃ k : Nat, k ≤ n ∧ i = .int .i64 k ∧ wr.ownsRow w.heap.size 32 2 v k (prs .i64 (l.take k)) ∧ Below w.heap.size w wr) (fun _ i _ => n - (intOf i).toNat)
  case atStart => exact ⟨0, Nat.zero_le _, rfl, World.ownsRow_nil _ _ _ _, Below.refl _ _⟩
  case round =>
    obtain ⟨k, hk, rfl, hown, hb⟩ := hrel
    by_cases hlt : k < n
    · obtain ⟨g, o, rfl, hg⟩ := HC.out (by omega)
      have hlk : k < l.length := by have := Hn.out; omega
      have hx : l[k]? = some l[k] := List.getElem?_eq_getElem hlk
      obtain ⟨ha, hb2, ha', hb2'⟩ := HR.out _ (List.getElem_mem hlk)
      generalize l[k] = x at hx ha hb2 ha' hb2'
      obtain ⟨x1, x2⟩ := x
      simp only at ha hb2 ha' hb2'
      obtain ⟨g1, g2⟩ := prs_get .u16 l k _ hx
      have hc1 : wr.cell? ⟨g, o + k * 2, none⟩ = some (.int .u16 x1) := by
        have h1 := hg _ _ g1
        exact (hb.cell (World.block_lt_of_cell? w _ h1)).trans h1
      have hc2 : wr.cell? ⟨g, o + k * 2 + 1, none⟩ = some (.int .u16 x2) := by
        have h1 := hg _ _ g2
        rw [← Nat.add_assoc] at h1
        exact (hb.cell (World.block_lt_of_cell? w _ h1)).trans h1
      have hbs := hb.size
      have Hx := Lib.hid hx
      have Hown := Lib.hid hown
      have hw1 : IntKind.i64.wrap x1 = x1 := by simp [IntKind.wrap, IntKind.bits, IntKind.signed]; omega
      have hw2 : IntKind.i64.wrap x2 = x2 := by simp [IntKind.wrap, IntKind.bits, IntKind.signed]; omega
      clear hx g1 g2 hg hown
      go_wp2_with (at_builtin; refine wpList_append_rd _ rfl _ _ rfl p2T w.heap.size _ k _ rfl ((Hown.out.alloc _).alloc _) _ 1 [_, _] rfl (Rd.lit2 _ _ _ _ (by simp)) ?c1 ?c2 ?c3 ?c4 ?_)
      case c1 => simp [Value.oneCell']
      case c2 => unfold maxLen; omega
      case c3 => omega
      case c4 => simp; omega
      intro v1 w1 hown1 hg1 _
      obtain ⟨hown', hb'⟩ := prs_rel Hx.out hb hbs Hown.out hown1 hg1
      clear hown1 hg1 Hown hb hc1 hc2 hw1 hw2
      go_wp2
      go_roundw
      case rel => exact ⟨k + 1, by omega, by go_num, hown', hb'⟩
      case measure => simp [intOf]; omega
    · obtain rfl : k = n := by omega
      go_wp2
      go_ret
      have hn := Hn.out
      refine RetRd.mk (Rd.of_own (e := 32) (base := w.heap.size) ?_) hb
      rw [hn, List.take_length] at hown
      rw [hn]
      exact hown

/-- Runs as pairs. -/
def gI (L : List (Nat × Nat)) : List (Int × Int) := L.map fun p => ((p.1 : Int), (p.2 : Int))
theorem gI_cells (k : IntKind) (L : List (Nat × Nat)) : gcells k L = prs k (gI L) := by simp [gcells, prs, gI, List.flatMap_map]
theorem gI_length (L : List (Nat × Nat)) : (gI L).length = L.length := by simp [gI]

set_option maxRecDepth 20000 in
theorem getc_any (first c top n gq gm : Nat) (du : Value) (t : TypeId) (w : World) (hr : Row w gq t (qcells first c top n gm du)) :
    Calls Tryd.prog 13 #[.pointer (some ⟨gq, 0, none⟩)] w fun e w' => e = .returned (.int .u32 (tsnOf first c : Nat)) ∧ w = w' := by
  have k5 : w.cell? ⟨gq, 5, none⟩ = some (.int .u32 (tsnOf first c : Nat)) := by rw [hr.cell]; rfl
  clear hr
  go_enter Tryd.func13, Tryd.ntmps13
  go_wp2
  go_ret
  exact ⟨rfl, rfl⟩

set_option maxRecDepth 20000 in
theorem popd_any (first c top n gq gm : Nat) (du : Value) (t : TypeId) (w : World) (hr : Row w gq t (qcells first c top n gm du)) :
    Calls Tryd.prog 16 #[.pointer (some ⟨gq, 0, none⟩)] w fun e w' => e = .returned du ∧ ∃ w1, Below w.heap.size w w1 ∧ w1.grownBy w' (some gq) := by
  have k3 : w.cell? ⟨gq, 3, none⟩ = some du := by rw [hr.cell]; rfl
  have hr1 := hr.alloc (.cells #[] 22)
  have k3' : (w.alloc (.cells #[] 22)).cell? ⟨gq, 3, none⟩ = some du := by rw [hr1.cell]; rfl
  have f3 := hr1.frozen 3
  clear hr hr1
  go_enter Tryd.func16, Tryd.ntmps16
  go_wp2
  go_ret
  exact ⟨rfl, _, (Below.refl _ _).alloc (Nat.le_refl _) _, only_set (only_refl _ _) 3 _⟩
end Go.Proofs.YtbmnpadpjbcljaaDoor
