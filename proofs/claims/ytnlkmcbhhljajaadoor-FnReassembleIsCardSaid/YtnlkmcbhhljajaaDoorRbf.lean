/- The contract of spec.Mixed: a permutation. Conditions: few elements; no number below 0. -/
import Derived.Test.YtnlkmcbhhljajaaDoorRbe
namespace Go.Proofs.YtnlkmcbhhljajaaDoor
open Go.RowKit Go.Lib

/-- Ints as cells. -/
def i64s (l : List Int) : List Value := l.map fun z => .int .i64 z
theorem i64s_length (l : List Int) : (i64s l).length = l.length := by simp [i64s]
theorem own_base {w : World} {B B' : Nat} {e : TypeId} {size n : Nat} {v : Value} {xs : List Value} (h : w.ownsRow B e size v n xs) (hb : B' ≤ B) : w.ownsRow B' e size v n xs := by
  obtain ⟨hl, h | ⟨g, cap, cur, hv, hg, r⟩⟩ := h
  · exact ⟨hl, .inl h⟩
  · exact ⟨hl, .inr ⟨g, cap, cur, hv, Nat.le_trans hb hg, r⟩⟩
/-- What Mixed returns. -/
def MixR (f : Value × Pc → List Value) (ds : List (Value × Pc)) (w : World) (z : Ending) (w' : World) : Prop :=
  ∃ (A : Option Addr) (n c : Nat) (ds' : List (Value × Pc)), z = .returned (.slice A n c) ∧ n = ds'.length ∧ Rd w' 9 n (.slice A n c) (flat f ds') ∧ ds'.Perm ds ∧ Below w.heap.size w w'

/-- The two lists while chunks are taken: what is left, what has been taken. -/
structure Mx (f : Value × Pc → List Value) (ds : List (Value × Pc)) (w0 w : World) (l o : Value) (L O : List (Value × Pc)) (nl no : Nat) : Prop where
  left : w.ownsRow w0.heap.size 36 9 l nl (flat f L)
  out : w.ownsRow w0.heap.size 36 9 o no (flat f O)
  apart : ∀ g, l.ownBlock = some g → o.ownBlock ≠ some g
  perm : (O ++ L).Perm ds
  nl : L.length = nl
  no : O.length = no
  below : Below w0.heap.size w0 w

theorem flat_split {α : Type} (f : α → List Value) (L : List α) (i : Nat) : flat f L = flat f (L.take i) ++ flat f (L.drop i) := by rw [← flat_append, List.take_append_drop]
theorem flat_drop {α : Type} {f : α → List Value} {k : Nat} (hf : ∀ a, (f a).length = k) (L : List α) (i : Nat) (hi : i ≤ L.length) : flat f (L.drop i) = (flat f L).drop (i * k) := by
  have hl : (flat f (L.take i)).length = i * k := by rw [flat_length hf, List.length_take, Nat.min_eq_left hi]
  rw [flat_split f L i, List.drop_left' hl]
theorem flat_take {α : Type} {f : α → List Value} {k : Nat} (hf : ∀ a, (f a).length = k) (L : List α) (i : Nat) (hi : i ≤ L.length) : flat f (L.take i) = (flat f L).take (i * k) := by
  have hl : (flat f (L.take i)).length = i * k := by rw [flat_length hf, List.length_take, Nat.min_eq_left hi]
  conv => rhs; rw [flat_split f L i]
  rw [List.take_left' hl]
/-- A part of a list of structs. -/
theorem Rd.part {α : Type} {f : α → List Value} {k : Nat} (hf : ∀ a, (f a).length = k) {w : World} {g o n c : Nat} {L : List α} (h : Rd w k n (.slice (some ⟨g, o, none⟩) n c) (flat f L)) (hn : n = L.length) (i m : Nat) (him : i + m ≤ n) (A : Option Addr) (c1 : Nat) (hA : 0 < m → A = some ⟨g, o + i * k, none⟩) (hm : m ≤ c1) (hc1 : c1 ≤ maxLen) (h0 : A = none → c1 = 0) :
    Rd w k m (.slice A m c1) (flat f ((L.drop i).take m)) := by
  obtain ⟨A', c', hv, _, _, hl, _, hc⟩ := h
  injection hv with e1 _ _
  have hlm : ((L.drop i).take m).length = m := by rw [List.length_take, List.length_drop]; omega
  refine ⟨A, c1, rfl, hm, hc1, by rw [flat_length hf, hlm], h0, fun hp => ?_⟩
  have hm0 : 0 < m := by
    rcases Nat.eq_zero_or_pos m with h | h
    · rw [h, Nat.zero_mul] at hp
      omega
    · exact h
  have hk0 : 0 < k := by
    rcases Nat.eq_zero_or_pos k with h | h
    · rw [h, Nat.mul_zero] at hp
      omega
    · exact h
  obtain ⟨g', o', e2, hg⟩ := hc (Nat.mul_pos (by omega) hk0)
  rw [← e1] at e2
  injection e2 with e2
  injection e2 with e2 e3 _
  subst e2 e3
  refine ⟨g, o + i * k, hA hm0, fun j u hu => ?_⟩
  rw [Nat.add_assoc]
  refine hg (i * k + j) u ?_
  rw [flat_take hf _ _ (by rw [List.length_drop]; omega), flat_drop hf _ _ (by omega), List.getElem?_take, ] at hu
  split at hu
  · rw [List.getElem?_drop] at hu
    exact hu
  · cases hu
theorem cut_lo (g o n c r : Nat) (w : World) (hr : r ≤ c) : (Instr.slice 29 (.slice (some ⟨g, o, none⟩) n c) none (some (.int .i64 (r : Int))) none).run Tryd.prog w = .ok (.slice (some ⟨g, o, none⟩) r c) w := by
  have hs : (sizeOf (Tryd.prog.elem 29)).run Tryd.prog w = .ok 9 w := by kernel_rfl
  rw [run_slice_h w _ _ _ _ (by kernel_rfl) .i64 _ (by omega) (by omega), hs]
  simp [sliced, Result.andThen, Addr.add]
theorem cut_hi (g o n c r : Nat) (hr : r + 1 ≤ n) (hn : n ≤ c) : ∃ A, (0 < n - (r + 1) → A = some ⟨g, o + (r + 1) * 9, none⟩) ∧ A ≠ none ∧ ∀ w, (Instr.slice 29 (.slice (some ⟨g, o, none⟩) n c) (some (.int .i64 ((r : Int) + 1))) none none).run Tryd.prog w = .ok (.slice A (n - (r + 1)) (c - (r + 1))) w := by
  refine ⟨if c = r + 1 then some ⟨g, o, none⟩ else some ⟨g, o + (r + 1) * 9, none⟩, fun h => by rw [if_neg (by omega)], by split <;> simp, fun w => ?_⟩
  have hs : (sizeOf (Tryd.prog.elem 29)).run Tryd.prog w = .ok 9 w := by kernel_rfl
  have e : ((r : Int) + 1) = ((r + 1 : Nat) : Int) := by omega
  rw [e, run_slice_l w _ _ _ _ (by kernel_rfl) .i64 _ (by omega) (by omega), hs]
  simp only [sliced, Result.andThen, Addr.add, Int.toNat_natCast, Option.map_some]
  split <;> simp

theorem take_out {L O ds : List (Value × Pc)} {r : Nat} {x : Value × Pc} (hx : L[r]? = some x) (h : (O ++ L).Perm ds) : ((O ++ [x]) ++ (L.take r ++ L.drop (r + 1))).Perm ds := by
  refine List.Perm.trans ?_ h
  have hr := (List.getElem?_eq_some_iff.1 hx).1
  have e : L = L.take r ++ x :: L.drop (r + 1) := by
    conv => lhs; rw [← List.take_append_drop r L]
    rw [List.drop_eq_getElem_cons hr, (List.getElem?_eq_some_iff.1 hx).2]
  rw [List.append_assoc]
  refine List.Perm.append_left O ?_
  conv => rhs; rw [e]
  exact (List.perm_middle (a := x) (l₁ := L.take r) (l₂ := L.drop (r + 1))).symm

set_option maxRecDepth 20000 in
set_option maxHeartbeats 1600000 in
theorem mixed_any (f : Value × Pc → List Value) (ds : List (Value × Pc)) (A : Option Addr) (n c : Nat) (A2 : Option Addr) (k c2 : Nat) (zs : List Int) (w : World) (hf : ∀ d, ∃ x0 x1 x2 x3 x4 x5 x6 x7 x8, f d = [x0, x1, x2, x3, x4, x5, x6, x7, x8]) (h1 : ∀ d ∈ ds, ∀ u ∈ f d, u.oneCell' = true)
    (hr : Rd w 9 n (.slice A n c) (flat f ds)) (hn : n = ds.length) (hnl : n ≤ 4000) (hz : Rd w 1 k (.slice A2 k c2) (i64s zs)) (hk : k = zs.length) (hkl : k ≤ 5000) (hz0 : ∀ z ∈ zs, 0 ≤ z) :
    Calls Tryd.prog 6 #[.slice A n c, .slice A2 k c2] w (MixR f ds w) := by
  have hf9 : ∀ d, (f d).length = 9 := fun d => by obtain ⟨x0, x1, x2, x3, x4, x5, x6, x7, x8, e⟩ := hf d; rw [e]; rfl
  have hone : ∀ L : List (Value × Pc), (∀ d ∈ L, d ∈ ds) → ∀ u ∈ flat f L, u.oneCell' = true := fun L hL u hu => by
    obtain ⟨xs, hxs, hu2⟩ := List.mem_flatten.1 hu
    obtain ⟨d, hd, rfl⟩ := List.mem_map.1 hxs
    exact h1 d (hL d hd) u hu2
  obtain ⟨A', c', hv, hnc, hcm, hl0, h0, hc⟩ := id hr
  injection hv with e1 e2 e3
  subst e1 e3
  clear e2 hl0 h0 hc
  obtain ⟨A', c', hv, hkc, hkm, hl0, h0, hc⟩ := id hz
  injection hv with e1 e2 e3
  subst e1 e3
  clear e2 hl0 h0
  have HC := Lib.hid hc
  have HR := Lib.hid hr
  have HZ0 := Lib.hid hz0
  have Hn := Lib.hid hn
  have Hk := Lib.hid hk
  have HONE := Lib.hid hone
  have HF := Lib.hid hf
  have HF9 := Lib.hid hf9
  clear hc hr hz0 hn hk hone hf hf9 hz h1
  unfold maxLen at hcm hkm
  go_enter Tryd.func6, Tryd.ntmps6
  go_wp2_with (at_builtin; refine wpList_append_rd _ rfl _ _ rfl dT w.heap.size (.slice (some ⟨w.heap.size, 0, none⟩) 0 0) 0 [] rfl ((Row.new w 36 #[]).own (Nat.le_refl _) rfl (Nat.zero_le _)) _ n (flat f ds) rfl (HR.out.alloc _) ?c1 ?c2 ?c3 ?c4 ?_)
  case c1 => exact HONE.out ds (fun d h => h)
  case c2 => unfold maxLen; omega
  case c3 => omega
  case c4 => simp
  intro v1 w1 hown1 hg1 hx1
  obtain ⟨Al, cl, el⟩ := own_slice hown1
  subst el
  have hb1 : Below w.heap.size w w1 := ((Below.refl _ _).alloc (Nat.le_refl _) _).grown hg1 (by simp) (by intro g e; simp [Value.ownBlock] at e; omega)
  go_wp2_with fail
  have hM0 : Mx f ds w (w1.alloc (.cells #[] 36)) (.slice Al n cl) (.slice (some ⟨w1.heap.size, 0, none⟩) 0 0) ds [] n 0 :=
    ⟨by simpa using own_below hown1 ((Below.refl w1.heap.size w1).alloc (Nat.le_refl _) _), (Row.new w1 36 #[]).own hb1.size rfl (Nat.zero_le _), fun g e => by
      have := (hown1.lt g e).2
      intro e2
      simp [Value.ownBlock] at e2
      omega, List.Perm.refl _, Hn.out.symm, rfl, hb1.alloc hb1.size _⟩
  have HM0 := Lib.hid hM0
  clear hM0 hown1 hg1 hx1 hb1
  go_loopw [5, 6, 16] (fun l o i wr => ∃ q nl no : Nat, q ≤ k ∧ i = .int .i64 (q : Int) ∧ nl ≤ 4000 ∧ no ≤ 4000 ∧ ∃ L O, Hid (Mx f ds w wr l o L O nl no)) (fun _ _ i _ => k - (intOf i).toNat)
  case atStart => exact ⟨0, n, 0, Nat.zero_le _, rfl, hnl, Nat.zero_le _, ds, [], HM0⟩
  case round =>
    clear HM0
    obtain ⟨q, nl, no, hq, rfl, hnl2, hno2, L, O, HX⟩ := hrel
    obtain ⟨Al2, cl2, el⟩ := own_slice HX.out.left
    subst el
    obtain ⟨Ao2, co2, eo⟩ := own_slice HX.out.out
    subst eo
    by_cases hlt : q < k
    · obtain ⟨g, o, eA, hg⟩ := HC.out (by omega)
      subst eA
      have hlz : q < zs.length := by have := Hk.out; omega
      have hz : zs[q]? = some zs[q] := List.getElem?_eq_getElem hlz
      have hzm := List.getElem_mem hlz
      generalize zs[q] = z at hz hzm
      have hz1 := HZ0.out z hzm
      have hcz := hg q (.int .i64 z) (by simp [i64s, hz])
      have hcz' : wr.cell? ⟨g, o + q, none⟩ = some (.int .i64 z) := (HX.out.below.cell (World.block_lt_of_cell? w _ hcz)).trans hcz
      clear hg hz hzm hcz
      by_cases h0 : nl = 0
      · go_wp2_with (at_builtin; refine wpList_append_rd _ rfl _ _ rfl dT w.heap.size (.slice Ao2 no co2) no (flat f O) rfl HX.out.out _ nl (flat f L) rfl (Rd.of_own HX.out.left) ?c1 ?c2 ?c3 HX.out.below.size ?_)
        case c1 => exact HONE.out L (fun d hd => HX.out.perm.mem_iff.1 (List.mem_append_right _ hd))
        case c2 => unfold maxLen; omega
        case c3 => omega
        intro v5 w5 hown5 hg5 hx5
        obtain ⟨A5, c5, e5⟩ := own_slice hown5
        subst e5
        have hp5 := HX.out.perm
        have hb5 := HX.out.below.grown hg5 HX.out.below.size (fun g e => (HX.out.out.lt g e).1)
        have hl5 : no + nl = (O ++ L).length := by rw [List.length_append, HX.out.no, HX.out.nl]
        rw [← flat_append] at hown5
        go_wp2
        go_ret
        exact ⟨A5, _, c5, O ++ L, rfl, by omega, Rd.of_own hown5, hp5, hb5⟩
      · obtain ⟨r, hzr⟩ : ∃ r : Nat, z % (nl : Int) = (r : Int) := ⟨(z % (nl : Int)).toNat, by have := Int.emod_nonneg z (b := (nl : Int)) (by omega); omega⟩
        have hrl : r < nl := by have := Int.emod_lt_of_pos z (b := (nl : Int)) (by omega); omega
        have hrL : r < L.length := by have := HX.out.nl; omega
        have hx : L[r]? = some L[r] := List.getElem?_eq_getElem hrL
        generalize L[r] = x at hx
        have hLo := Rd.of_own HX.out.left
        obtain ⟨g1, o1, eA, hel⟩ := hLo.el HF9.out (by omega) hx
        subst eA
        obtain ⟨x0, x1, x2, x3, x4, x5, x6, x7, x8, hxs⟩ := HF.out x
        have hLr : ∀ b u, ([x0, x1, x2, x3, x4, x5, x6, x7, x8] : List Value)[b]? = some u → wr.cell? ⟨g1, o1 + r * 9 + b, none⟩ = some u := fun b u hb => hel b u (by rw [hxs]; exact hb)
        have hxd : x ∈ ds := HX.out.perm.mem_iff.1 (List.mem_append_right _ (List.mem_of_getElem? hx))
        have h1x : ∀ u ∈ [x0, x1, x2, x3, x4, x5, x6, x7, x8], u.oneCell' = true := fun u hu => HONE.out [x] (fun d hd => by obtain rfl := List.mem_singleton.1 hd; exact hxd) u (by rw [flat_one, hxs]; exact hu)
        have HLR := Lib.hid hLr
        have HXS := Lib.hid hxs
        have Hx := Lib.hid hx
        have hno3 : no + nl ≤ 4000 := by
          have h1 := HX.out.perm.length_eq
          rw [List.length_append, HX.out.no, HX.out.nl, ← Hn.out] at h1
          omega
        clear hLo hel hLr hxs hx hxd
        go_wp2_with (first | (refine wpList_load_mid rfl 36 _ rfl g1 (o1 + r * 9) rfl [x0, x1, x2, x3, x4, x5, x6, x7, x8] _ HLR.out Tryd.underlying36 rfl da_info ?_) | (at_builtin; refine wpList_append_rd _ rfl _ _ rfl dT w.heap.size (.slice Ao2 no co2) no (flat f O) rfl (own_below HX.out.out ((Below.refl wr.heap.size wr).alloc (Nat.le_refl _) (.cells #[x0, x1, x2, x3, x4, x5, x6, x7, x8] 36))) _ 1 [x0, x1, x2, x3, x4, x5, x6, x7, x8] rfl (Rd.lit9 wr 36 [x0, x1, x2, x3, x4, x5, x6, x7, x8] 9 rfl) h1x ?c2 ?c3 ?c4 ?_))
        case c2 => unfold maxLen; omega
        case c3 => omega
        case c4 => rw [World.size_alloc]; have := HX.out.below.size; omega
        intro v5 w5 hown5 hg5 hx5
        obtain ⟨A5, c5, e5⟩ := own_slice hown5
        subst e5
        rw [← HXS.out, ← flat_one f x, ← flat_append] at hown5
        have hb5 : Below w.heap.size w w5 := ((HX.out.below).alloc HX.out.below.size _).grown hg5 (by rw [World.size_alloc]; have := HX.out.below.size; omega) (fun g e => (HX.out.out.lt g e).1)
        have hl5 : w5.ownsRow w.heap.size 36 9 (.slice (some ⟨g1, o1, none⟩) nl cl2) nl (flat f L) := (own_below HX.out.left ((Below.refl wr.heap.size wr).alloc (Nat.le_refl _) _)).kept hg5 (.inr (fun e => by
          cases hb : (Value.slice (some ⟨g1, o1, none⟩) nl cl2).ownBlock with
          | none => simp [Value.ownBlock] at hb
          | some g => exact HX.out.apart g hb (by rw [← e]; exact hb)))
        have hR5 := Rd.of_own hl5
        have hnlL := HX.out.nl
        have hncl : nl ≤ cl2 ∧ cl2 ≤ maxLen := by
          obtain ⟨_, _, e, h1, h2, _⟩ := hR5
          injection e with _ _ e
          omega
        have hcut1 := fun w => cut_lo g1 o1 nl cl2 r w (by omega)
        obtain ⟨A9, hA9, hA9n, hcut2⟩ := cut_hi g1 o1 nl cl2 r (by omega) hncl.1
        have hRa : Rd w5 9 r (.slice (some ⟨g1, o1, none⟩) r cl2) (flat f (L.take r)) := by
          have := Rd.part HF9.out hR5 hnlL.symm 0 r (by omega) (some ⟨g1, o1, none⟩) cl2 (fun _ => by simp) (by omega) hncl.2 (fun h => by cases h)
          rw [List.drop_zero] at this
          exact this
        have hRb : Rd w5 9 (nl - (r + 1)) (.slice A9 (nl - (r + 1)) (cl2 - (r + 1))) (flat f (L.drop (r + 1))) := by
          have := Rd.part HF9.out hR5 hnlL.symm (r + 1) (nl - (r + 1)) (by omega) A9 (cl2 - (r + 1)) hA9 (by omega) (by have := hncl.2; omega) (fun h => absurd h hA9n)
          rw [List.take_of_length_le (by rw [List.length_drop]; omega)] at this
          exact this
        have hOut : Hid (w5.ownsRow w.heap.size 36 9 (.slice A5 (no + 1) c5) (no + 1) (flat f (O ++ [x]))) := Lib.hid hown5
        have HB5 := Lib.hid hb5
        have HRA := Lib.hid hRa
        have HRB := Lib.hid hRb
        have HMA := Lib.hid (HONE.out (L.take r) (fun d hd => HX.out.perm.mem_iff.1 (List.mem_append_right _ (List.mem_of_mem_take hd))))
        have HMB := Lib.hid (HONE.out (L.drop (r + 1)) (fun d hd => HX.out.perm.mem_iff.1 (List.mem_append_right _ (List.mem_of_mem_drop hd))))
        have HPM := Lib.hid HX.out.perm
        have HNL := Lib.hid hnlL
        have HNO := Lib.hid HX.out.no
        clear hown5 hg5 hx5 hb5 hl5 hR5 hRa hRb hnlL HX h1x HLR hcz' hA9 hA9n hncl hzr
        go_upto_region 9 with fail
        have hw1 : IntKind.i64.wrap ((r : Int) + 1) = (r : Int) + 1 := by simp [IntKind.wrap, IntKind.bits, IntKind.signed]; omega
        go_region_law (first | (refine step_append_rd _ rfl _ _ rfl dT w5.heap.size (.slice (some ⟨w5.heap.size, 0, none⟩) 0 0) 0 [] rfl ((Row.new w5.drew 36 #[]).own (Nat.le_refl _) rfl (Nat.zero_le _)) _ r (flat f (L.take r)) rfl (HRA.out.drew.alloc _) HMA.out (by unfold maxLen; omega) (by omega) (by simp) ?_; intro v7 w7 hown7 hg7 hx7; clear hx7; have hb7 : Below w5.heap.size w5 w7 := ((Below.refl w5.heap.size w5).alloc (Nat.le_refl _) (.cells #[] 36)).drew.grown hg7 (by simp) (by intro g e; simp [Value.ownBlock] at e; omega); have HOWN7 : Hid (w7.ownsRow w5.heap.size 36 9 v7 r (flat f (L.take r))) := Lib.hid (by simpa using hown7); have HB7 := Lib.hid hb7; clear hown7 hg7 hb7) | (refine step_append_rd _ rfl _ _ rfl dT w5.heap.size v7 r (flat f (L.take r)) rfl HOWN7.out _ (nl - (r + 1)) (flat f (L.drop (r + 1))) rfl (HRB.out.below HB7.out) HMB.out (by unfold maxLen; omega) (by omega) HB7.out.size ?_; intro v8 w8 hown8 hg8 hx8; clear hx8; have HOWN8 := Lib.hid hown8; have HB8 := Lib.hid (HB7.out.grown hg8 HB7.out.size (fun g e => (HOWN7.out.lt g e).1)); clear hown8 hg8))
        all_goals
          have hz5 := HB5.out.size
          have hM : Mx f ds w w8 v8 (.slice A5 (no + 1) c5) (L.take r ++ L.drop (r + 1)) (O ++ [x]) (r + (nl - (r + 1))) (no + 1) :=
            ⟨by rw [flat_append]; exact own_base HOWN8.out hz5, own_below hOut.out HB8.out, fun g e e2 => by
              have h1 := (HOWN8.out.lt g e).1
              have h2 := (hOut.out.lt g e2).2
              omega, take_out Hx.out HPM.out, by rw [List.length_append, List.length_take, List.length_drop, HNL.out]; omega, by rw [List.length_append, HNO.out]; rfl, below_step HB5.out hz5 HB8.out⟩
          have HM := Lib.hid hM
          have hnl9 : r + (nl - (r + 1)) ≤ 4000 := by omega
          have hno9 : no + 1 ≤ 4000 := by omega
          clear hM HOWN7 HB7 HOWN8 HB8 hOut HB5 HRA HRB HMA HMB HPM HNL HNO hcut1 hcut2 hw1 HXS Hx
          go_wp2
          exact ⟨⟨q + 1, r + (nl - (r + 1)), no + 1, by omega, by go_num, hnl9, hno9, _, _, HM⟩, by simp [intOf]; omega⟩
    · obtain rfl : q = k := by omega
      go_wp2_with (at_builtin; refine wpList_append_rd _ rfl _ _ rfl dT w.heap.size (.slice Ao2 no co2) no (flat f O) rfl HX.out.out _ nl (flat f L) rfl (Rd.of_own HX.out.left) ?c1 ?c2 ?c3 HX.out.below.size ?_)
      case c1 => exact HONE.out L (fun d hd => HX.out.perm.mem_iff.1 (List.mem_append_right _ hd))
      case c2 => unfold maxLen; omega
      case c3 => omega
      intro v5 w5 hown5 hg5 hx5
      obtain ⟨A5, c5, e5⟩ := own_slice hown5
      subst e5
      have hp5 := HX.out.perm
      have hb5 := HX.out.below.grown hg5 HX.out.below.size (fun g e => (HX.out.out.lt g e).1)
      have hl5 : no + nl = (O ++ L).length := by rw [List.length_append, HX.out.no, HX.out.nl]
      rw [← flat_append] at hown5
      go_wp2
      go_ret
      exact ⟨A5, _, c5, O ++ L, rfl, by omega, Rd.of_own hown5, hp5, hb5⟩
end Go.Proofs.YtnlkmcbhhljajaaDoor
