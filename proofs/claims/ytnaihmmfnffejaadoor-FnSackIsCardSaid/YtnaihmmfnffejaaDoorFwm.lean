/- Contract of the marshal of FORWARD TSN. Conditions: the numbers fit; at most 1000 streams. -/
import Derived.Test.YtnaihmmfnffejaaDoorFws
namespace Go.Proofs.YtnaihmmfnffejaaDoor
open Go.RowKit Go.Lib

/-- Pairs of 16 bits as bytes. -/
def sbytes (l : List (Int × Int)) : List UInt8 := l.flatMap fun p => be 2 p.1.toNat ++ be 2 p.2.toNat
theorem sbytes_length (l : List (Int × Int)) : (sbytes l).length = 4 * l.length := by
  induction l with
  | nil => rfl
  | cons a l ih => simp only [sbytes, List.flatMap_cons, List.length_append, List.length_cons, be_length] at ih ⊢; omega
theorem sbytes_take (l : List (Int × Int)) (j : Nat) (p : Int × Int) (h : l[j]? = some p) : sbytes (l.take (j + 1)) = sbytes (l.take j) ++ (be 2 p.1.toNat ++ be 2 p.2.toNat) := by
  rw [List.take_add_one, h]; simp [sbytes]
/-- The value of FORWARD TSN. -/
def fwbody (tsn : Nat) (l : List (Int × Int)) : List UInt8 := be 4 tsn ++ sbytes l
theorem fwbody_length (tsn : Nat) (l : List (Int × Int)) : (fwbody tsn l).length = 4 + 4 * l.length := by simp [fwbody, be_length, sbytes_length]
theorem fwbody_take (tsn : Nat) (l : List (Int × Int)) (j : Nat) (p : Int × Int) (h : l[j]? = some p) : fwbody tsn (l.take (j + 1)) = fwbody tsn (l.take j) ++ (be 2 p.1.toNat ++ be 2 p.2.toNat) := by
  unfold fwbody; rw [sbytes_take l j p h, List.append_assoc]

/-- A slice of the call's own lies in no elder block. -/
theorem own_far {w : World} {B : Nat} {e : TypeId} {size n : Nat} {v : Value} {xs : List Value} (h : w.ownsRow B e size v n xs) {g : Nat} (hg : g < B) : Far v g := by
  intro A m c hv
  rcases h.2 with ⟨rfl, _⟩ | ⟨g', cap, cur, rfl, hb, _⟩
  · cases hv
  · injection hv with h1
    injection h1 with h1
    subst h1
    simp only [ne_eq]
    omega

theorem pr_cells {w wr : World} {g o : Nat} {k : IntKind} {l : List (Int × Int)} {j : Nat} {p : Int × Int} (hg : ∀ (j : Nat) (u : Value), (prs k l)[j]? = some u → w.cell? ⟨g, o + j, none⟩ = some u) (hb : Below w.heap.size w wr) (h : l[j]? = some p) :
    wr.cell? ⟨g, o + j * 2, none⟩ = some (.int k p.1) ∧ wr.cell? ⟨g, o + j * 2 + 1, none⟩ = some (.int k p.2) := by
  obtain ⟨g1, g2⟩ := prs_get k l j p h
  have h1 := hg _ _ g1
  have h2 := hg _ _ g2
  rw [← Nat.add_assoc] at h2
  exact ⟨(hb.cell (World.block_lt_of_cell? w _ h1)).trans h1, (hb.cell (World.block_lt_of_cell? w _ h2)).trans h2⟩

theorem fw_rel {B : Nat} {w w2 w3 : World} {v v1 : Value} {k : Nat} {tsn : Nat} {l : List (Int × Int)} {x : Int × Int} (hx : l[k]? = some x) (hb : Below B w w2) (hbs : B ≤ w2.heap.size)
    (hown : w2.ownsRow B 5 1 v (fwbody tsn (l.take k)).length (bvs (fwbody tsn (l.take k))))
    (hown1 : w3.ownsRow B 5 1 v1 ((fwbody tsn (l.take k)).length + 4) (bvs (fwbody tsn (l.take k)) ++ bvs (be 2 x.1.toNat ++ be 2 x.2.toNat))) (hg1 : w2.grownBy w3 v.ownBlock) :
    w3.ownsRow B 5 1 v1 (fwbody tsn (l.take (k + 1))).length (bvs (fwbody tsn (l.take (k + 1)))) ∧ Below B w w3 := by
  refine ⟨?_, hb.grown hg1 hbs (fun j hj => (hown.lt j hj).1)⟩
  rw [fwbody_take tsn l k x hx, bvs_append, List.length_append]
  simpa [be_length] using hown1

set_option maxRecDepth 20000 in
theorem fwmarshal (gc : Nat) (t : TypeId) (tsn : Int) (A : Option Addr) (n c : Nat) (l : List (Int × Int)) (w : World) (hr : Row w gc t [.int .u8 0, .int .u8 0, .slice none 0 0, .int .u32 tsn, .slice A n c])
    (hs : Rd w 2 n (.slice A n c) (prs .u16 l)) (hn : n = l.length) (hl : n ≤ 1000) (ht0 : 0 ≤ tsn) (ht : tsn ≤ 4294967295) (hp : ∀ p ∈ l, 0 ≤ p.1 ∧ p.1 ≤ 65535 ∧ 0 ≤ p.2 ∧ p.2 ≤ 65535) :
    Calls Tryd.prog 72 #[.pointer (some ⟨gc, 0, none⟩)] w (RetSlO w gc (chunk 192 0 (fwbody tsn.toNat l))) := by
  have hgc := hr.lt
  have k3 : w.cell? ⟨gc, 3, none⟩ = some (.int .u32 tsn) := by rw [hr.cell]; rfl
  have Hr := Lib.hid hr
  have Hn := Lib.hid hn
  have HP := Lib.hid hp
  obtain ⟨A', c', hv, hnc, hcm, hl0, h0, hc⟩ := hs
  injection hv with e1 e2 e3
  subst e1 e3
  have HC := Lib.hid hc
  clear hr hp hn hl0 h0 hc e2
  unfold maxLen at hcm
  go_enter Tryd.func72, Tryd.ntmps72
  go_wp2_with (at_make; refine wpList_make_row _ rfl _ _ _ rfl bT rfl _ _ _ _ 4 rfl rfl (by rfl) (by rfl) (by omega) (by unfold maxLen; omega) ?_)
  intro w1 hrow hb1
  have hrow' : Row w1 w.heap.size 5 (bvs (List.replicate 4 0)) := by rw [bvs_zero]; exact hrow
  have k3 := (hb1.cell (p := ⟨gc, 3, none⟩) hgc).trans k3
  have Hrow := Lib.hid hrow'
  have Hb1 := Lib.hid hb1
  clear hrow' hrow hb1
  go_wp2_with fail
  refine wp_region_tail 7 (by kernel_rfl) (by kernel_rfl) ?_
  simp only [List.take_succ_cons, List.take_zero, List.drop_succ_cons, List.drop_zero]
  repeat still_step
  refine wpStill_nil ?_
  go_wp2_with fail
  refine (put32_any _ 0 _ _ _ _ _ w1.drew Hrow.out.drew (by simp) (by omega) ht0 ht).mono ?_
  rintro e w2 ⟨rfl, hP2⟩
  rw [put_whole _ _ (by simp [be_length])] at hP2
  have hb2 : Below w.heap.size w w2 := below_only Hb1.out.drew Hb1.out.size hP2.2 (Nat.le_refl _)
  have hR2 := Hr.out.below hb2 hgc
  have k4 : w2.cell? ⟨gc, 4, none⟩ = some (.slice A n c) := by rw [hR2.cell]; rfl
  have hown : w2.ownsRow w.heap.size 5 1 (.slice (some ⟨w.heap.size, 0, none⟩) 4 4) (fwbody tsn.toNat (l.take 0)).length (bvs (fwbody tsn.toNat (l.take 0))) := by
    have h := hP2.1.own (size := 1) (n := 4) (Nat.le_refl _) (by simp [bvs, be_length]) (by unfold maxLen; omega)
    simpa [fwbody, sbytes, be_length] using h
  have Hb2 := Lib.hid hb2
  have Hown := Lib.hid hown
  clear hb2 hP2 hR2 hown k3 Hrow Hb1
  go_wp2_with fail
  go_loopw [4, 23] (fun v i wr => ∃ k : Nat, k ≤ n ∧ i = .int .i64 k ∧ wr.ownsRow w.heap.size 5 1 v (fwbody tsn.toNat (l.take k)).length (bvs (fwbody tsn.toNat (l.take k))) ∧ Below w.heap.size w wr) (fun _ i _ => n - (intOf i).toNat)
  case atStart => exact ⟨0, Nat.zero_le _, rfl, Hown.out, Hb2.out⟩
  case round =>
    obtain ⟨k, hk, rfl, hown, hb⟩ := hrel
    have hbs := hb.size
    have Hb := Lib.hid hb
    have Hown := Lib.hid hown
    by_cases hlt : k < n
    · obtain ⟨g, o, rfl, hg⟩ := HC.out (by omega)
      have hlk : k < l.length := by have := Hn.out; omega
      have hx : l[k]? = some l[k] := List.getElem?_eq_getElem hlk
      obtain ⟨ha, hb2, ha', hb2'⟩ := HP.out _ (List.getElem_mem hlk)
      generalize l[k] = x at hx ha hb2 ha' hb2'
      obtain ⟨x1, x2⟩ := x
      simp only at ha hb2 ha' hb2'
      obtain ⟨hc1, hc2⟩ := pr_cells hg hb hx
      have Hx := Lib.hid hx
      have hlen : (fwbody tsn.toNat (l.take k)).length ≤ 5000 := by rw [fwbody_length]; simp; omega
      have Hlen := Lib.hid hlen
      clear hx hg hown hb k4 hlen
      go_wp2_with fail
      refine (fsmarshal wr.heap.size _ x1 x2 _ (Row.new wr _ _) ha hb2 ha' hb2').mono ?_
      rintro e w4 ⟨A4, n4, c4, rfl, hs4, hb4⟩
      have hown4 := (Hown.out.alloc (.cells #[.int .u16 x1, .int .u16 x2] 135)).kept (grown_of_below hb4 none) (by cases h : Value.ownBlock _ <;> simp)
      have hb5 := below_step (Hb.out.alloc hbs (.cells #[.int .u16 x1, .int .u16 x2] 135)) (by simp; omega) hb4
      have hn4 := hs4.len
      simp only [List.length_append, be_length] at hn4
      have hn4' : n4 = 4 := by omega
      subst hn4'
      have hbs4 := hb5.size
      have Hs4 := Lib.hid hs4
      have Hown4 := Lib.hid hown4
      have Hb5 := Lib.hid hb5
      clear hs4 hb4 hown4 hb5 hn4 hc1 hc2
      go_wp2_with (at_builtin; refine wpList_append_rd _ rfl _ _ rfl bT w.heap.size _ _ _ rfl Hown4.out _ 4 (bvs (be 2 x1.toNat ++ be 2 x2.toNat)) rfl Hs4.out (bvs_one _) ?c1 ?c2 hbs4 ?_)
      case c1 => have := Hlen.out; unfold maxLen; omega
      case c2 => have := Hlen.out; omega
      intro v1 w5 hown5 hg5 _
      obtain ⟨hown', hb'⟩ := fw_rel Hx.out Hb5.out hbs4 Hown4.out hown5 hg5
      clear hown5 hg5
      go_wp2
      go_roundw
      case rel => exact ⟨k + 1, by omega, by go_num, hown', hb'⟩
      case measure => simp [intOf]; omega
    · obtain rfl : k = n := by omega
      have hF := own_far hown hgc
      have hS := Sl.of_own hown
      rw [show l.take k = l by rw [Hn.out, List.take_length]] at hS
      obtain ⟨A6, c6, hv6, hx6⟩ := hS
      have hS : Sl wr (.slice A6 (fwbody tsn.toNat l).length c6) (fwbody tsn.toNat l) := ⟨A6, c6, rfl, hx6⟩
      subst hv6
      generalize (fwbody tsn.toNat l).length = m6 at hS hF
      have HF := Lib.hid hF
      have HS := Lib.hid hS
      have hR := Hr.out.below hb hgc
      have HR := Lib.hid hR
      have y0 : wr.cell? ⟨gc, 0, none⟩ = some (.int .u8 0) := by rw [hR.cell]; rfl
      have y2 : wr.cell? ⟨gc, 2, none⟩ = some (.slice none 0 0) := by rw [hR.cell]; rfl
      have f0 := hR.frozen 0
      have f2 := hR.frozen 2
      clear hF hS hR hown hb hx6 Hown k4
      go_wp2_with fail
      have hW : Row ((wr.setCell ⟨gc, 0, none⟩ (.int .u8 192)).setCell ⟨gc, 2, none⟩ (.slice A6 m6 c6)) gc t [.int .u8 192, .int .u8 0, .slice A6 m6 c6, .int .u32 tsn, .slice A k c] := (HR.out.set 0 _).set 2 _
      have hg := only_set (only_set (only_refl wr (some gc)) 0 (.int .u8 192)) 2 (.slice A6 m6 c6)
      refine (hmarshal_any gc t 192 0 _ [_, _] _ _ hW (HS.out.only hg HF.out) (by rw [fwbody_length]; have := Hn.out; omega)).mono ?_
      rintro e w7 ⟨A7, n7, c7, rfl, hs7, hb7⟩
      have Hs7 := Lib.hid hs7
      have Hg7 := Lib.hid (only_trans (grown_of_below Hb.out (some gc)) (only_below hg hb7))
      clear hs7 hb7 hW hg
      go_wp2
      go_ret2
      exact ⟨A7, n7, c7, rfl, by rw [chunk_rev]; exact Hs7.out, Hg7.out⟩
end Go.Proofs.YtnaihmmfnffejaaDoor
