/- Contracts of the chunk header's unmarshal: a whole chunk (with at most three zeros behind it) is read; one that is cut is refused. Conditions: the length fits 16 bits. -/
import Derived.Test.YtokkhfjlbnochaaDoorHead
namespace Go.Proofs.YtokkhfjlbnochaaDoor
open Go.RowKit Go.Lib

/-- The slice does not lie in block g. -/
def Far (v : Value) (g : Nat) : Prop := ∀ A n c, v = .slice (some A) n c → A.block ≠ g
theorem Far.nil (g : Nat) : Far (.slice none 0 0) g := fun A n c h => by cases h
theorem Sl.only {w w' : World} {v : Value} {l : List UInt8} {g : Nat} (h : Sl w v l) (hg : w.grownBy w' (some g)) (hf : Far v g) : Sl w' v l := Rd.only h hg (fun A c hv => hf A _ c hv)
/-- A slice that stood before block g was made does not lie in it. -/
theorem Sl.far {w : World} {A : Option Addr} {n c : Nat} {l : List UInt8} (h : Sl w (.slice A n c) l) (hp : 0 < l.length) {g : Nat} (hg : w.heap.size ≤ g) : Far (.slice A n c) g := by
  obtain ⟨A', c', hv, hnc, hcm, hl0, h0, hc⟩ := h
  injection hv with e1 e2 e3
  subst e1
  obtain ⟨g', o, rfl, hg'⟩ := hc (by omega)
  intro B m d hB
  injection hB with e4
  injection e4 with e4
  subst e4
  have := World.block_lt_of_cell? w ⟨g', o + 0, none⟩ (hg' 0 _ (bvs_get l 0 hp))
  intro e
  simp only at e this
  omega

theorem Sl.sub {w : World} {g o n c : Nat} {l : List UInt8} (h : Sl w (.slice (some ⟨g, o, none⟩) n c) l) (lo m : Nat) (hm : lo + m ≤ n) :
    Sl w (.slice (if c = lo then some ⟨g, o, none⟩ else some ⟨g, o + lo, none⟩) m (c - lo)) ((l.drop lo).take m) := by
  have hn := h.len
  obtain ⟨A', c', hv, hnc, hcm, hl0, h0, hc⟩ := h
  injection hv with e1 e2 e3
  subst e1 e3
  have hlen : ((l.drop lo).take m).length = m := by simp; omega
  refine ⟨_, _, by rw [hlen], by rw [hlen]; omega, by omega, by simp [bvs], (by intro h; split at h <;> cases h), fun hp => ?_⟩
  rw [hlen] at hp
  rw [if_neg (by omega)]
  refine ⟨g, o + lo, rfl, fun j u hu => ?_⟩
  obtain ⟨g', o', hA, hg⟩ := hc (by omega)
  injection hA with hA
  injection hA with h1 h2 _
  subst h1 h2
  rw [Nat.add_assoc]
  refine hg (lo + j) u ?_
  rw [← hu]
  simp only [bvs, List.map_take, List.map_drop, List.getElem?_take, List.getElem?_drop]
  rw [if_pos]
  have := (List.getElem?_eq_some_iff.1 hu).1
  rw [bvs_length, hlen] at this
  exact this

theorem pad_get (tb fb : UInt8) (l : List UInt8) (k j m : Nat) (hm : m = l.length) (hj : j < k) : (bvs (tb :: fb :: (be 2 (4 + l.length) ++ (l ++ List.replicate k 0))))[4 + m + j]? = some (.int .u8 0) := by
  subst hm
  have e : (tb :: fb :: (be 2 (4 + l.length) ++ (l ++ List.replicate k 0)))[4 + l.length + j]? = some 0 := by
    rw [be_two, show 4 + l.length + j = (l.length + j) + 1 + 1 + 1 + 1 by omega]
    simp only [List.getElem?_cons_succ, List.cons_append, List.nil_append]
    rw [List.getElem?_append_right (by omega), Nat.add_sub_cancel_left, List.getElem?_replicate, if_pos hj]
  simp only [bvs, List.getElem?_map, e]
  rfl

/-- What unmarshal leaves: no error; in the header's block type, flags and the value's slice; nothing else that was there has changed. -/
def Reads3 (w : World) (gc : Nat) (t : TypeId) (tb fb : UInt8) (rest : List Value) (l : List UInt8) (e : Ending) (w' : World) : Prop :=
  ∃ A n c, e = .returned .nilIface ∧ Row w' gc t (bv tb :: bv fb :: .slice A n c :: rest) ∧ Sl w' (.slice A n c) l ∧ Far (.slice A n c) gc ∧ w.grownBy w' (some gc)

set_option maxRecDepth 20000 in
theorem hunmarshal_ok (gc : Nat) (t : TypeId) (c0 c1 c2 : Value) (rest : List Value) (A : Option Addr) (n c : Nat) (tb fb : UInt8) (l : List UInt8) (k : Nat) (w : World)
    (hr : Row w gc t (c0 :: c1 :: c2 :: rest)) (hs : Sl w (.slice A n c) (tb :: fb :: (be 2 (4 + l.length) ++ (l ++ List.replicate k 0)))) (hf : Far (.slice A n c) gc) (hl : l.length ≤ 65531) (hk : k ≤ 3) :
    Calls Tryd.prog 33 #[.pointer (some ⟨gc, 0, none⟩), .slice A n c] w (Reads3 w gc t tb fb rest l) := by
  have hn := hs.len
  simp only [List.length_cons, List.length_append, be_length, List.length_replicate] at hn
  have Hs := Lib.hid hs
  obtain ⟨A', c', hv, hnc, hcm, hl0, h0, hc⟩ := hs
  injection hv with e1 e2 e3
  subst e1 e3
  obtain ⟨g, o, rfl, hg⟩ := hc (by simp)
  have hne : ¬ g = gc := fun e => hf _ _ _ rfl e
  have hne' : ¬ gc = g := fun e => hne e.symm
  have b0 : w.cell? ⟨g, o, none⟩ = some (.int .u8 (tb.toNat : Int)) := hg 0 _ rfl
  have b1 : w.cell? ⟨g, o + 1, none⟩ = some (.int .u8 (fb.toNat : Int)) := hg 1 _ rfl
  have k0 : w.cell? ⟨gc, 0, none⟩ = some c0 := by rw [hr.cell]; rfl
  have k1 : w.cell? ⟨gc, 1, none⟩ = some c1 := by rw [hr.cell]; rfl
  have f0 := hr.frozen 0
  have f1 := hr.frozen 1
  have Hr := Lib.hid hr
  have Hg := Lib.hid hg
  have Hf := Lib.hid hf
  have hn4 : 4 ≤ n := by omega
  have i0 : (0 : Int) < (n : Int) := by omega
  have i1 : (1 : Int) < (n : Int) := by omega
  have i2 : (2 : Int) ≤ (n : Int) := by omega
  have hnc' : n ≤ c := by rw [hn]; simpa [be_length] using hnc
  have hc2 : ¬ c = 2 := by omega
  obtain ⟨m, hm⟩ : ∃ m, m = l.length := ⟨_, rfl⟩
  have hmn : 4 + m + k = n := by omega
  have hm' : m ≤ 65531 := by omega
  have Hm := Lib.hid hm
  have Hmn := Lib.hid hmn
  have hmle : 4 + m ≤ n := by omega
  have hcm' : c ≤ 9223372036854775807 := by unfold maxLen at hcm; omega
  clear hr hg hc h0 hl0 hcm e2 hnc hn hf hmn hm hl
  go_enter Tryd.func33, Tryd.ntmps33
  go_wp2_with fail
  clear b0 b1 k0 k1 f0 f1
  have hRW : Row ((w.setCell ⟨gc, 0, none⟩ (.int .u8 (tb.toNat : Int))).setCell ⟨gc, 1, none⟩ (.int .u8 (fb.toNat : Int))) gc t (bv tb :: bv fb :: c2 :: rest) := (Hr.out.set 0 _).set 1 _
  have hGW : w.grownBy ((w.setCell ⟨gc, 0, none⟩ (.int .u8 (tb.toNat : Int))).setCell ⟨gc, 1, none⟩ (.int .u8 (fb.toNat : Int))) (some gc) := only_setCell (p := ⟨gc, 1, none⟩) (only_setCell (p := ⟨gc, 0, none⟩) (only_refl _ _) (.inl rfl) _) (.inl rfl) _
  generalize (w.setCell ⟨gc, 0, none⟩ (.int .u8 (tb.toNat : Int))).setCell ⟨gc, 1, none⟩ (.int .u8 (fb.toNat : Int)) = W at hRW hGW ⊢
  have HRW := Lib.hid hRW
  have HGW := Lib.hid hGW
  have hsW := Hs.out.only hGW Hf.out
  have h2 : Sl W.drew (.slice (some ⟨g, o + 2, none⟩) (n - 2) (c - 2)) (UInt8.ofNat ((4 + l.length) / 256) :: UInt8.ofNat (4 + l.length) :: (l ++ List.replicate k 0)) := by
    have h3 := hsW.sub 2 (n - 2) (by omega)
    rw [if_neg hc2, be_two] at h3
    simp only [List.drop_succ_cons, List.drop_zero, List.cons_append, List.nil_append] at h3
    rw [List.take_of_length_le (by have := Hmn.out; have := Hm.out; simp; omega)] at h3
    exact h3
  have H2 := Lib.hid h2
  clear hRW hGW hsW h2
  refine wp_region_tail 3 (by kernel_rfl) (by kernel_rfl) ?_
  simp only [List.take_succ_cons, List.take_zero, List.drop_succ_cons, List.drop_zero]
  repeat still_step
  refine wpStill_nil ?_
  go_wp2_with fail
  have hx : ne [UInt8.ofNat ((4 + l.length) / 256), UInt8.ofNat (4 + l.length)] = 4 + m := by
    have h3 := ne_be_two (4 + l.length) (by have := Hm.out; omega)
    rw [be_two] at h3
    rw [h3, Hm.out]
  refine (get16_any _ _ _ _ _ _ _ H2.out).mono ?_
  rintro e w2 ⟨rfl, hb2⟩
  rw [hx]
  have hG2 : w.grownBy w2 (some gc) := only_below (only_drew HGW.out) hb2
  have hR2 : Row w2 gc t (bv tb :: bv fb :: c2 :: rest) := (HRW.out.drew).below hb2 HRW.out.lt
  have HG2 := Lib.hid hG2
  have HR2 := Lib.hid hR2
  have r2 : w2.cell? ⟨gc, 2, none⟩ = some c2 := by rw [hR2.cell]; rfl
  have f2 := hR2.frozen 2
  have e4 : (4 : Int) + (m : Int) - 4 = (m : Int) := by omega
  have e5 : (n : Int) - (4 + (m : Int)) = (k : Int) := by have := Hmn.out; omega
  have hkc : (k : Int) < 4 := by omega
  have i4 : (4 : Int) ≤ (n : Int) := by omega
  have j4 : (4 : Int) ≤ 4 + (m : Int) := by omega
  have j5 : (4 : Int) + (m : Int) ≤ (c : Int) := by omega
  clear hb2 hx H2 HRW HGW hG2 hR2
  go_wp2_with fail
  go_loop [8, 9] (fun i _ => ∃ j : Nat, i = .int .i64 j ∧ j ≤ k) (fun i _ => (intOf i).toNat)
  case atStart => exact ⟨k, rfl, Nat.le_refl _⟩
  case round =>
    obtain ⟨j, rfl, hj⟩ := hrel
    cases j with
    | zero =>
      have hs2 := (Hs.out.only HG2.out Hf.out).sub 4 m (by omega)
      have hl4 : ((tb :: fb :: (be 2 (4 + l.length) ++ (l ++ List.replicate k 0))).drop 4).take m = l := by
        rw [be_two, Hm.out]; simp
      rw [hl4] at hs2
      by_cases hc4 : c = 4
      · subst hc4
        rw [if_pos rfl] at hs2
        have Hs2 := Lib.hid hs2
        clear hs2 hl4
        go_wp2
        go_ret
        exact ⟨_, _, _, rfl, HR2.out.set 2 _, Hs2.out.only (only_setCell (p := ⟨gc, 2, none⟩) (only_refl _ _) (.inl rfl) _) (fun A n c e => by cases e; exact hne), fun A n c e => by cases e; exact hne, only_setCell (p := ⟨gc, 2, none⟩) HG2.out (.inl rfl) _⟩
      · rw [if_neg hc4] at hs2
        have Hs2 := Lib.hid hs2
        clear hs2 hl4
        go_wp2
        go_ret
        exact ⟨_, _, _, rfl, HR2.out.set 2 _, Hs2.out.only (only_setCell (p := ⟨gc, 2, none⟩) (only_refl _ _) (.inl rfl) _) (fun A n c e => by cases e; exact hne), fun A n c e => by cases e; exact hne, only_setCell (p := ⟨gc, 2, none⟩) HG2.out (.inl rfl) _⟩
    | succ j =>
      have hcell : w2.cell? ⟨g, o + (4 + m + j), none⟩ = some (.int .u8 0) := by
        have h1 := Hg.out (4 + m + j) _ (pad_get tb fb l k j m Hm.out (by omega))
        exact (World.cell?_of_block (a := ⟨g, o + (4 + m + j), none⟩) (HG2.out.block g (World.block_lt_of_cell? w _ h1) (by intro e; injection e with e; exact hne e))).trans h1
      have hjn : 4 + m + j < n := by have := Hmn.out; omega
      go_wp2_with fail
      go_round
      case rel => exact ⟨j, by go_num, by omega⟩
      case measure => simp [intOf]

/-- An error is returned, and nothing but block gc has changed of what was there. -/
def Fails (w : World) (gc : Nat) (e : Ending) (w' : World) : Prop := ∃ u v, e = .returned (.iface u v) ∧ w.grownBy w' (some gc)

theorem hunmarshal_short (gc : Nat) (A : Option Addr) (n c : Nat) (l : List UInt8) (u : TypeId) (x : Value) (w : World)
    (h0 : w.cell? ⟨13, 0, none⟩ = some (.iface u x)) (hs : Sl w (.slice A n c) l) (hl : l.length < 4) :
    Calls Tryd.prog 33 #[.pointer (some ⟨gc, 0, none⟩), .slice A n c] w (Fails w gc) := by
  have hn := hs.len
  have hn4 : (n : Int) < 4 := by omega
  clear hs hn hl
  go_enter Tryd.func33, Tryd.ntmps33
  go_wp2
  go_ret
  exact ⟨u, x, rfl, only_refl _ _⟩

set_option maxRecDepth 20000 in
theorem hunmarshal_cut (gc : Nat) (t : TypeId) (c0 c1 c2 : Value) (rest : List Value) (A : Option Addr) (n c : Nat) (tb fb : UInt8) (m : Nat) (l : List UInt8) (u : TypeId) (x : Value) (w : World)
    (h0 : w.cell? ⟨14, 0, none⟩ = some (.iface u x)) (hg0 : ¬ gc = 14)
    (hr : Row w gc t (c0 :: c1 :: c2 :: rest)) (hs : Sl w (.slice A n c) (tb :: fb :: (be 2 (4 + m) ++ l))) (hf : Far (.slice A n c) gc) (hm : m ≤ 65531) (hl : l.length < m) :
    Calls Tryd.prog 33 #[.pointer (some ⟨gc, 0, none⟩), .slice A n c] w (Fails w gc) := by
  have hn := hs.len
  simp only [List.length_cons, List.length_append, be_length] at hn
  have Hs := Lib.hid hs
  obtain ⟨A', c', hv, hnc, hcm, hl0, ha0, hc⟩ := hs
  injection hv with e1 e2 e3
  subst e1 e3
  obtain ⟨g, o, rfl, hg⟩ := hc (by simp)
  have hne : ¬ g = gc := fun e => hf _ _ _ rfl e
  have hne' : ¬ gc = g := fun e => hne e.symm
  have b0 : w.cell? ⟨g, o, none⟩ = some (.int .u8 (tb.toNat : Int)) := hg 0 _ rfl
  have b1 : w.cell? ⟨g, o + 1, none⟩ = some (.int .u8 (fb.toNat : Int)) := hg 1 _ rfl
  have k0 : w.cell? ⟨gc, 0, none⟩ = some c0 := by rw [hr.cell]; rfl
  have k1 : w.cell? ⟨gc, 1, none⟩ = some c1 := by rw [hr.cell]; rfl
  have f0 := hr.frozen 0
  have f1 := hr.frozen 1
  have Hr := Lib.hid hr
  have Hf := Lib.hid hf
  have hn4 : 4 ≤ n := by omega
  have hnm : n < 4 + m := by omega
  have i0 : (0 : Int) < (n : Int) := by omega
  have i1 : (1 : Int) < (n : Int) := by omega
  have i2 : (2 : Int) ≤ (n : Int) := by omega
  have hnc' : n ≤ c := by rw [hn]; simpa [be_length] using hnc
  have hc2 : ¬ c = 2 := by omega
  have Hn := Lib.hid hn
  have hcm' : c ≤ 9223372036854775807 := by unfold maxLen at hcm; omega
  have K0 := Lib.hid h0
  clear hr hg hc ha0 hl0 hcm e2 hnc hn hf hl h0
  go_enter Tryd.func33, Tryd.ntmps33
  go_wp2_with fail
  clear b0 b1 k0 k1 f0 f1
  have hGW : w.grownBy ((w.setCell ⟨gc, 0, none⟩ (.int .u8 (tb.toNat : Int))).setCell ⟨gc, 1, none⟩ (.int .u8 (fb.toNat : Int))) (some gc) := only_setCell (p := ⟨gc, 1, none⟩) (only_setCell (p := ⟨gc, 0, none⟩) (only_refl _ _) (.inl rfl) _) (.inl rfl) _
  generalize (w.setCell ⟨gc, 0, none⟩ (.int .u8 (tb.toNat : Int))).setCell ⟨gc, 1, none⟩ (.int .u8 (fb.toNat : Int)) = W at hGW ⊢
  have HGW := Lib.hid hGW
  have hsW := Hs.out.only hGW Hf.out
  have h2 : Sl W.drew (.slice (some ⟨g, o + 2, none⟩) (n - 2) (c - 2)) (UInt8.ofNat ((4 + m) / 256) :: UInt8.ofNat (4 + m) :: l) := by
    have h3 := hsW.sub 2 (n - 2) (by omega)
    rw [if_neg hc2, be_two] at h3
    simp only [List.drop_succ_cons, List.drop_zero, List.cons_append, List.nil_append] at h3
    rw [List.take_of_length_le (by have := Hn.out; simp; omega)] at h3
    exact h3
  have H2 := Lib.hid h2
  clear hGW hsW h2
  refine wp_region_tail 3 (by kernel_rfl) (by kernel_rfl) ?_
  simp only [List.take_succ_cons, List.take_zero, List.drop_succ_cons, List.drop_zero]
  repeat still_step
  refine wpStill_nil ?_
  go_wp2_with fail
  have hx : ne [UInt8.ofNat ((4 + m) / 256), UInt8.ofNat (4 + m)] = 4 + m := by
    have h3 := ne_be_two (4 + m) (by omega)
    rw [be_two] at h3
    exact h3
  refine (get16_any _ _ _ _ _ _ _ H2.out).mono ?_
  rintro e w2 ⟨rfl, hb2⟩
  rw [hx]
  have hG2 : w.grownBy w2 (some gc) := only_below (only_drew HGW.out) hb2
  have HG2 := Lib.hid hG2
  have r4 : w2.cell? ⟨14, 0, none⟩ = some (.iface u x) := hG2.cell K0.out (by intro e; injection e with e; exact hg0 e.symm)
  have e4 : (4 : Int) + (m : Int) - 4 = (m : Int) := by omega
  have e5 : (n : Int) - (4 + (m : Int)) < 0 := by omega
  clear hb2 hx H2 HGW hG2
  go_wp2
  go_ret
  exact ⟨u, x, rfl, HG2.out⟩
end Go.Proofs.YtokkhfjlbnochaaDoor
