/- The queue's state while the numbers come. Conditions: the numbers are 1 .. 1000 behind the first; at most 1000 of them. -/
import Derived.Test.YtbmnpadpjbcljaaDoorRvJ
namespace Go.Proofs.YtbmnpadpjbcljaaDoor
open Go.RowKit Go.Lib

/-- Numbers as cells. -/
def dcs (first : Nat) (L : List Nat) : List Value := L.map fun d => .int .u32 (tsnOf first d : Nat)
theorem dcs_snoc (first : Nat) (L : List Nat) (d : Nat) : dcs first (L ++ [d]) = dcs first L ++ [.int .u32 (tsnOf first d : Nat)] := by simp [dcs]
theorem dcs_length (first : Nat) (L : List Nat) : (dcs first L).length = L.length := by simp [dcs]

def QAt (first c top gq gm : Nat) (f : Nat → Bool) (du : Value) (w : World) : Prop :=
  ∃ n ws, Row w gq 53 (qcells first c top n gm du) ∧ Row w gm 54 (u64s ws) ∧ MaskOk first ws f ∧ QF c top n f
theorem QAt.below {first c top gq gm : Nat} {f : Nat → Bool} {du : Value} {w w' : World} (h : QAt first c top gq gm f du w) (hb : Below w.heap.size w w') : QAt first c top gq gm f du w' := by
  obtain ⟨n, ws, h1, h2, h3⟩ := h
  exact ⟨n, ws, h1.below hb h1.lt, h2.below hb h2.lt, h3⟩

/-- What holds after k numbers, the first c of them in order taken off. -/
structure RvSt (first : Nat) (l : List Nat) (k B2 gq gm c : Nat) (w wr : World) : Prop where
  st : ∃ f du, QAt first c (topOf l k) gq gm f du wr ∧ Tells (came l k) c f ∧ wr.ownsRow B2 22 1 du (twice l k).length (dcs first (twice l k))
  pre : ∀ i, 1 ≤ i → i ≤ c → came l k i = true
  below : Below w.heap.size w wr
  size : B2 ≤ wr.heap.size
  g1 : w.heap.size ≤ gm
  g2 : gm < gq
  g3 : gq < B2

theorem push_all {first : Nat} {l : List Nat} {k B2 gq gm c x : Nat} {w wr : World} (hf : first < 4294967296) (h : RvSt first l k B2 gq gm c w wr) (hx : l[k]? = some x) (h1 : 1 ≤ x) (h2 : x ≤ 1000) (hk : k ≤ 1000) :
    Calls Tryd.prog 11 #[.pointer (some ⟨gq, 0, none⟩), .int .u32 (tsnOf first x : Nat)] wr fun e w' => (∃ b, e = .returned (.bool b)) ∧ RvSt first l (k + 1) B2 gq gm c w w' := by
  obtain ⟨⟨f, du, ⟨n, ws, a1, a2, a3, a4⟩, ht, hown⟩, hpre, hb, hs, g1, g2, g3⟩ := h
  have hwr := hb.size
  by_cases hd : x ≤ c ∨ f x = true
  · have hcm := came_of ht hpre h1 hd
    refine (push_dup first c (topOf l k) n gq gm x w.heap.size B2 (twice l k).length f du _ ws _ _ wr hf a1 a2 a3 a4 h1 h2 hown (by omega) (by omega) g3 (by omega) hs (by have := twice_le l k; omega) hd).mono ?_
    rintro e w' ⟨rfl, du', b1, b2, b3, b4, b5⟩
    refine ⟨⟨_, rfl⟩, ⟨f, du', ?_, by rw [came_same hx hcm]; exact ht, ?_⟩, by rw [came_same hx hcm]; exact hpre, hb.trans b4, by omega, g1, g2, g3⟩
    · rw [topOf_same hx hcm]
      exact ⟨n, ws, b1, b2, a3, a4⟩
    · rw [twice_yes hx hcm, dcs_snoc, List.length_append]
      exact b3
  · have hxc : c < x := by
      rcases Nat.lt_or_ge c x with h | h
      · exact h
      · exact absurd (.inl h) hd
    have hfx : f x = false := by
      cases h : f x with
      | false => rfl
      | true => exact absurd (.inr h) hd
    have hcm := came_not ht hxc hfx
    refine (push_new first c (topOf l k) n gq gm x f du ws _ _ wr hf a1 a2 a3 a4 h1 h2 (by omega) hxc hfx).mono ?_
    rintro e w' ⟨rfl, ws', b1, b2, b3, w1, b4, b5⟩
    have hb1 := below_only hb hwr b4 g1
    have hs1 := b4.size
    have hs2 := b5.size
    have hb2 := below_only hb1 (by omega) b5 (by omega)
    refine ⟨⟨_, rfl⟩, ⟨upd f x true, du, ?_, ht.new hx hxc, ?_⟩, fun i i1 i2 => came_mono (hpre i i1 i2), hb2, by omega, g1, g2, g3⟩
    · rw [topOf_new hx]
      exact ⟨_, ws', b1, b2, b3, a4.new hxc h2 hfx⟩
    · rw [twice_no hx hcm]
      exact (hown.kept b4 (.inr (own_apart hown (by omega)))).kept b5 (.inr (own_apart hown (by omega)))

theorem pop_all {first : Nat} {l : List Nat} {k B2 gq gm c : Nat} {w wr : World} (hf : first < 4294967296) (h : RvSt first l k B2 gq gm c w wr) :
    Calls Tryd.prog 12 #[.pointer (some ⟨gq, 0, none⟩), .bool false] wr fun e w' => ∃ b, e = .returned (.bool b) ∧ ((b = true ∧ c + 1 ≤ 1000 ∧ RvSt first l k B2 gq gm (c + 1) w w') ∨ (b = false ∧ wr = w' ∧ Pre (came l k) c)) := by
  obtain ⟨⟨f, du, ⟨n, ws, a1, a2, a3, a4⟩, ht, hown⟩, hpre, hb, hs, g1, g2, g3⟩ := h
  have hwr := hb.size
  cases hfx : f (c + 1) with
  | false =>
    refine (pop_no first c (topOf l k) n gq gm f du ws _ _ wr hf a1 a2 a3 a4 hfx).mono ?_
    rintro e w' ⟨rfl, rfl⟩
    refine ⟨false, rfl, .inr ⟨rfl, rfl, hpre, ?_⟩⟩
    exact came_not ht (Nat.lt_succ_self _) hfx
  | true =>
    have hc := (a4.lo _ hfx).2
    have hc2 := a4.top
    refine (pop_yes first c (topOf l k) n gq gm f du ws _ _ wr hf a1 a2 a3 a4 hfx (by omega)).mono ?_
    rintro e w' ⟨rfl, ws', b1, b2, b3, w1, b4, b5⟩
    have hb1 := below_only hb hwr b4 g1
    have hs1 := b4.size
    have hs2 := b5.size
    have hb2 := below_only hb1 (by omega) b5 (by omega)
    refine ⟨true, rfl, .inl ⟨rfl, by omega, ⟨upd f (c + 1) false, du, ⟨_, ws', b1, b2, b3, a4.pop hfx⟩, ht.pop, ?_⟩, fun i i1 i2 => ?_, hb2, by omega, g1, g2, g3⟩⟩
    · exact (hown.kept b4 (.inr (own_apart hown (by omega)))).kept b5 (.inr (own_apart hown (by omega)))
    · rcases Nat.lt_or_ge c i with h3 | h3
      · obtain rfl : i = c + 1 := by omega
        rw [ht] at hfx
        simp at hfx
        exact hfx
      · exact hpre i i1 h3

theorem gaps_all {first : Nat} {l : List Nat} {k gq gm c : Nat} {f : Nat → Bool} {du : Value} {w : World} (hf : first < 4294967296) (h : QAt first c (topOf l k) gq gm f du w) (ht : Tells (came l k) c f) (hp : Pre (came l k) c) (hT : TabAt w) :
    Calls Tryd.prog 15 #[.pointer (some ⟨gq, 0, none⟩), .int .i64 65535] w (Gaps f c (topOf l k) w) := by
  obtain ⟨n, ws, a1, a2, a3, a4⟩ := h
  by_cases hn : n = 0
  · exact gaps_none first c (topOf l k) n gq gm f du _ w a1 a4 hn
  · exact gaps_some first c (topOf l k) n gq gm f du ws _ _ w hf a1 a2 a3 a4 hT hn (tells_top ht a4 rfl hn) (by rw [ht, hp.2]; rfl)
end Go.Proofs.YtbmnpadpjbcljaaDoor
