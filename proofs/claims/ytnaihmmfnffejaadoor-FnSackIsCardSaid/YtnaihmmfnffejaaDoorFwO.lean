/- Contracts of ZZForwardOf and ForwardOf. Conditions: the numbers fit; at most 1000 streams. -/
import Derived.Test.YtnaihmmfnffejaaDoorFwU
import Derived.Test.YtnaihmmfnffejaaDoorDatO
namespace Go.Proofs.YtnaihmmfnffejaaDoor
open Go.RowKit Go.Lib

theorem Rd.apart {w : World} {size n : Nat} {v : Value} {xs : List Value} {g : Nat} {t : TypeId} {ys : List Value} (h : Rd w size n v xs) (hr : Row w g t ys) (hx : ∀ x ∈ xs, x ∉ ys) : 0 < n * size → Far v g := by
  intro hp A m c hv
  obtain ⟨A', c', hv', hnc, hcm, hl0, h0, hc⟩ := h
  rw [hv] at hv'
  injection hv' with e1 e2 e3
  subst e1
  obtain ⟨g', o, hA, hg⟩ := hc hp
  injection hA with hA
  subst hA
  intro e
  simp only at e
  subst e
  have hx0 : xs[0]? = some (xs[0]'(by omega)) := List.getElem?_eq_getElem (by omega)
  have h1 := hg 0 _ hx0
  rw [Nat.add_zero, hr.cell] at h1
  exact hx _ (List.mem_of_getElem? hx0) (List.mem_of_getElem? h1)
theorem Rd.only' {w w' : World} {size n : Nat} {v : Value} {xs : List Value} {g : Nat} (h : Rd w size n v xs) (hg : w.grownBy w' (some g)) (hf : 0 < n * size → Far v g) : Rd w' size n v xs := by
  rcases Nat.eq_zero_or_pos (n * size) with hz | hp
  · obtain ⟨A, c, hv, hnc, hcm, hl0, h0, _⟩ := h
    exact ⟨A, c, hv, hnc, hcm, hl0, h0, fun hp => absurd hp (by omega)⟩
  · exact h.only hg (fun A c hv => hf hp A _ c hv)
theorem prs_kind {k : IntKind} {l : List (Int × Int)} {x : Value} (h : x ∈ prs k l) : ∃ z, x = .int k z := by
  obtain ⟨p, _, hp⟩ := List.mem_flatMap.1 h
  simp only [List.mem_cons, List.not_mem_nil, or_false] at hp
  rcases hp with rfl | rfl
  · exact ⟨_, rfl⟩
  · exact ⟨_, rfl⟩

theorem zf_info : (Tryd.prog.info? 91).map (·.size) = some 2 := by kernel_rfl
theorem fw_info : (Tryd.prog.info? 52).map (·.size) = some 2 := by kernel_rfl

def FwGot (w : World) (k : IntKind) (tsn : Nat) (l : List (Int × Int)) (o : Value) (e : Ending) (w' : World) : Prop :=
  ∃ A2 c2, e = .returned (.tuple #[.agg #[.int .u32 (tsn : Int), .slice A2 l.length c2], o]) ∧ Rd w' 2 l.length (.slice A2 l.length c2) (prs k l) ∧ Below w.heap.size w w'

theorem fwo_rel {O : Nat} {w1 wr w5 : World} {v v1 : Value} {k : Nat} {l : List (Int × Int)} {x : Int × Int} {T : TypeId} {a : Value} {o1 o2 : Obj} (hx : l[k]? = some x) (hR : Row wr O T [a, v]) (hO : wr.ownsRow (O + 1) 126 2 v k (prs .u16 (l.take k)))
    (hb : Below O w1 wr) (hbs : O + 1 ≤ wr.heap.size) (hown : w5.ownsRow (O + 1) 126 2 v1 (k + 1) (prs .u16 (l.take k) ++ [.int .u16 x.1, .int .u16 x.2])) (hg : ((wr.alloc o1).alloc o2).grownBy w5 v.ownBlock) :
    Row w5 O T [a, v] ∧ w5.ownsRow (O + 1) 126 2 v1 (k + 1) (prs .u16 (l.take (k + 1))) ∧ Below O w1 w5 ∧ O + 1 ≤ w5.heap.size := by
  refine ⟨((hR.alloc o1).alloc o2).grown hg (own_apart hO (by omega)).symm, by rw [prs_take .u16 l k x hx]; exact hown, ((hb.alloc (by omega) o1).alloc (by simp; omega) o2).grown hg (by simp; omega) (fun j hj => by have := (hO.lt j hj).1; omega), by have := hg.size; simp at this; omega⟩

set_option maxRecDepth 20000 in
set_option maxHeartbeats 1600000 in
theorem zzfwof_any (A : Option Addr) (n c : Nat) (tsn : Nat) (l : List (Int × Int)) (w : World) (hs : Sl w (.slice A n c) (chunk 192 0 (fwbody tsn l))) (hl : l.length ≤ 1000) (ht : tsn < 4294967296) (hp : ∀ p ∈ l, Ok16 p) :
    Calls Tryd.prog 55 #[.slice A n c] w (FwGot w .u16 tsn l .nilIface) := by
  have hf : Far (.slice A n c) (w.heap.size + 1) := hs.far (by rw [chunk_length]; omega) (by omega)
  have Hs := Lib.hid hs
  have Hf := Lib.hid hf
  have Hl := Lib.hid hl
  have Ht := Lib.hid ht
  have HP := Lib.hid hp
  clear hs hf hl ht hp
  go_enter Tryd.func55, Tryd.ntmps55
  go_wp2_with fail
  refine (fwunmarshal (w.heap.size + 1) _ A n c tsn l _ (Row.new' _ _ _ (by simp)) ((Hs.out.alloc _).alloc _) Hf.out Hl.out Ht.out HP.out).mono ?_
  rintro z w2 ⟨v2, A2, c2, rfl, hr2, hs2, hg2⟩
  have hr0 := ((Row.new w 91 #[.int .u32 0, .slice none 0 0]).alloc _).grown hg2 (by intro e; injection e with e; omega)
  have hb2 : Below w.heap.size w w2 := below_only (((Below.refl w.heap.size w).alloc (Nat.le_refl _) _).alloc (by simp) _) (by simp; omega) hg2 (by omega)
  obtain ⟨n2, hn2⟩ : ∃ n2, n2 = l.length := ⟨_, rfl⟩
  rw [← hn2] at hr2 hs2
  have Hn := Lib.hid hn2
  have hl2 : n2 ≤ 1000 := by have := Hl.out; omega
  have Hr0 := Lib.hid hr0
  have Hb2 := Lib.hid hb2
  have x3 : w2.cell? ⟨w.heap.size + 1, 3, none⟩ = some (.int .u32 (tsn : Int)) := by rw [hr2.cell]; rfl
  have x4 : w2.cell? ⟨w.heap.size + 1, 4, none⟩ = some (.slice A2 n2 c2) := by rw [hr2.cell]; rfl
  have hz2 : w.heap.size + 1 < w2.heap.size := hr2.lt
  obtain ⟨A', c', hv, hnc, hcm, hl0, h0, hc⟩ := hs2
  injection hv with e1 e2 e3
  subst e1 e3
  have HC := Lib.hid hc
  unfold maxLen at hcm
  have x4' : (w2.alloc (.cells #[.int .u32 (tsn : Int), .slice none 0 0] 91)).cell? ⟨w.heap.size + 1, 4, none⟩ = some (.slice A2 n2 c2) := by rw [(hr2.alloc _).cell]; rfl
  clear hr2 hr0 hg2 hb2 hn2 hl0 h0 hc e2
  go_wp2_with fail
  go_loopw [28] (fun i wr => ∃ (k : Nat) (v : Value), k ≤ n2 ∧ i = .int .i64 k ∧ Hid (Row wr w2.heap.size 91 [.int .u32 (tsn : Int), v]) ∧ Hid (wr.ownsRow (w2.heap.size + 1) 126 2 v k (prs .u16 (l.take k))) ∧ Hid (Below w2.heap.size w2 wr) ∧ w2.heap.size + 1 ≤ wr.heap.size) (fun i _ => n2 - (intOf i).toNat)
  case atStart => exact ⟨0, .slice none 0 0, Nat.zero_le _, rfl, Lib.hid (Row.new _ _ _), Lib.hid (World.ownsRow_nil _ _ _ _), Lib.hid ((Below.refl _ _).alloc (Nat.le_refl _) _), by simp⟩
  case round =>
    obtain ⟨k, v, hk, rfl, HR, HO, HB, hbs⟩ := hrel
    obtain ⟨Av, cv, hv⟩ := own_slice HO.out
    subst hv
    by_cases hlt : k < n2
    · obtain ⟨g, o, rfl, hg⟩ := HC.out (by omega)
      have hlk : k < l.length := by have := Hn.out; omega
      have hx : l[k]? = some l[k] := List.getElem?_eq_getElem hlk
      generalize l[k] = x at hx
      obtain ⟨p1, p2⟩ := x
      obtain ⟨hc1, hc2⟩ := pr_cells hg HB.out hx
      have Hx := Lib.hid hx
      have y1 : wr.cell? ⟨w2.heap.size, 1, none⟩ = some (.slice Av k cv) := by rw [HR.out.cell]; rfl
      have y2 : (wr.alloc (.cells #[.int .u16 p1, .int .u16 p2] 135)).cell? ⟨w2.heap.size, 1, none⟩ = some (.slice Av k cv) := by rw [(HR.out.alloc _).cell]; rfl
      clear hx hg x3 x4 x4'
      go_wp2_with (at_builtin; refine wpList_append_rd _ rfl _ _ rfl h2T (w2.heap.size + 1) _ k _ rfl ((HO.out.alloc _).alloc _) _ 1 [_, _] rfl (Rd.lit2 _ _ _ _ (by simp)) ?c1 ?c2 ?c3 ?c4 ?_)
      case c1 => exact ⟨rfl, rfl⟩
      case c2 => unfold maxLen; omega
      case c3 => omega
      case c4 => first | omega | (simp; omega)
      intro v1 w5 hown5 hg5 _
      obtain ⟨A1, c1, e1⟩ := own_slice hown5
      subst e1
      obtain ⟨hR5, hO5, hB5, hz5⟩ := fwo_rel Hx.out HR.out HO.out HB.out hbs hown5 hg5
      have y5 : w5.cell? ⟨w2.heap.size, 1, none⟩ = some (.slice Av k cv) := by rw [hR5.cell]; rfl
      have f5 := hR5.frozen 1
      have hO6 : w5.grownBy (w5.setCell ⟨w2.heap.size, 1, none⟩ (.slice A1 (k + 1) c1)) (some w2.heap.size) := only_set (only_refl _ _) 1 _
      have R6 := Lib.hid (hR5.set 1 (.slice A1 (k + 1) c1))
      have O6 := Lib.hid (hO5.kept hO6 (.inr (own_apart hO5 (by omega))))
      have B6 := Lib.hid (below_only hB5 (by omega) hO6 (Nat.le_refl _))
      have z6 : w2.heap.size + 1 ≤ (w5.setCell ⟨w2.heap.size, 1, none⟩ (.slice A1 (k + 1) c1)).heap.size := by have := hO6.size; omega
      clear hown5 hg5 hR5 hO5 hB5 hO6 y1 y2 hc1 hc2
      go_wp2
      go_roundw
      case rel => exact ⟨k + 1, _, by omega, by go_num, R6, O6, B6, z6⟩
      case measure => simp [intOf]; omega
    · obtain rfl : k = n2 := by omega
      have hO := HO.out
      rw [show l.take k = l by rw [Hn.out, List.take_length]] at hO
      have hR := Hr0.out.below HB.out (by omega)
      have r0 : wr.cell? ⟨w.heap.size, 0, none⟩ = some (.int .u32 0) := by rw [hR.cell]; rfl
      have r1 : wr.cell? ⟨w.heap.size, 1, none⟩ = some (.slice none 0 0) := by rw [hR.cell]; rfl
      have f0 := hR.frozen 0
      have f1 := hR.frozen 1
      have y0 : wr.cell? ⟨w2.heap.size, 0, none⟩ = some (.int .u32 (tsn : Int)) := by rw [HR.out.cell]; rfl
      have y1 : wr.cell? ⟨w2.heap.size, 1, none⟩ = some (.slice Av k cv) := by rw [HR.out.cell]; rfl
      have S := Lib.hid (Rd.of_own hO)
      have hF : ∀ A c, Value.slice Av k cv = .slice (some A) k c → A.block ≠ w.heap.size := fun A c e => own_far hO (g := w.heap.size) (by omega) A k c e
      have HF := Lib.hid hF
      have HRR := Lib.hid hR
      clear hO hR HO hF x3 x4 x4'
      go_wp2
      have hR6 := (HRR.out.set 0 (.int .u32 (tsn : Int))).set 1 (.slice Av k cv)
      have hO6 := only_set (only_set (only_refl wr (some w.heap.size)) 0 (.int .u32 (tsn : Int))) 1 (.slice Av k cv)
      refine bodyPost_ret (results_cell_tmp_row rfl _ _ w.heap.size _ _ (0, 0) _ rfl hR6 Tryd.underlying91 rfl zf_info) rfl ?_
      refine ⟨Av, cv, by rw [← Hn.out]; rfl, by rw [← Hn.out]; exact S.out.only hO6 HF.out, ?_⟩
      exact below_only (Hb2.out.trans (HB.out.mono (by omega))) (by omega) hO6 (Nat.le_refl _)

set_option maxRecDepth 20000 in
set_option maxHeartbeats 1600000 in
theorem fwof_any (v : Value) (tsn : Nat) (l : List (Int × Int)) (w : World) (hs : Sl w v (chunk 192 0 (fwbody tsn l))) (hl : l.length ≤ 1000) (ht : tsn < 4294967296) (hp : ∀ p ∈ l, Ok16 p) :
    Calls Tryd.prog 30 #[v] w (FwGot w .i64 tsn l (.bool true)) := by
  have Hs := Lib.hid hs
  have Hl := Lib.hid hl
  have HP := Lib.hid hp
  have Ht := Lib.hid ht
  clear hs hl hp ht
  go_enter Tryd.func30, Tryd.ntmps30
  go_wp2_with fail
  refine (copied_any _ _ _ (Hs.out.alloc _) (by rw [chunk_length, fwbody_length]; have := Hl.out; omega)).mono ?_
  rintro z w1 ⟨A1, n1, c1, rfl, hs1, hb1⟩
  have hd := Row.new w 52 #[.int .u32 0, .slice none 0 0]
  have Hd1 := Lib.hid (hd.below hb1 hd.lt)
  have Hs1 := Lib.hid hs1
  have Hb1 := Lib.hid (((Below.refl w.heap.size w).alloc (Nat.le_refl _) (.cells #[.int .u32 0, .slice none 0 0] 52)).trans (hb1.mono (by simp)))
  clear hs1 hb1 hd
  go_wp2_with fail
  refine (zzfwof_any A1 n1 c1 tsn l _ Hs1.out Hl.out Ht.out HP.out).mono ?_
  rintro z w2 ⟨A2, c2, rfl, hs2, hb2⟩
  obtain ⟨n2, hn2⟩ : ∃ n2, n2 = l.length := ⟨_, rfl⟩
  rw [← hn2] at hs2 ⊢
  have Hn := Lib.hid hn2
  have Hd2 := Lib.hid (Hd1.out.below hb2 Hd1.out.lt)
  have Hs2 := Lib.hid hs2
  have Hb2 := Lib.hid (below_step Hb1.out Hb1.out.size hb2)
  clear hs2 hb2 hn2
  go_wp2_with fail
  have hg1 := Row.new w2 91 #[.int .u32 (tsn : Int), .slice A2 n2 c2]
  have hd1 := Hd2.out.alloc (.cells #[.int .u32 (tsn : Int), .slice A2 n2 c2] 91)
  have hsW := Hs2.out.alloc (.cells #[.int .u32 (tsn : Int), .slice A2 n2 c2] 91)
  have hbW := Hb2.out.alloc Hb2.out.size (.cells #[.int .u32 (tsn : Int), .slice A2 n2 c2] 91)
  have hne : w2.heap.size ≠ w.heap.size := by have := Hd2.out.lt; omega
  generalize (w2.alloc (.cells #[.int .u32 (tsn : Int), .slice A2 n2 c2] 91)) = W at hg1 hd1 hsW hbW ⊢
  generalize w2.heap.size = G at hg1 hne ⊢
  have hk := Row.two (w := W.drew) hg1
  have Hg1 := Lib.hid hg1
  have Hd := Lib.hid hd1
  have HsW := Lib.hid hsW
  have HbW := Lib.hid hbW
  clear hg1 hd1 hsW hbW Hs Hd1 Hs1 Hb1 Hd2 Hs2 Hb2
  go_region_held3 (fun w' => w'.cell? ⟨G, 0, none⟩ = some (.int .u32 (tsn : Int)) ∧ w'.cell? ⟨G, 1, none⟩ = some (.slice A2 n2 c2)) (first | (with_reducible exact hk) | (with_reducible exact hk3) | exact Row.two (Row.far (p := ⟨w.heap.size, 1, none⟩) (Row.far (p := ⟨w.heap.size, 0, none⟩) hg3 hne _) hne _))
    (first | (go_at_call 53; refine (pairs_any _ l _ (by rw [← Hn.out]; exact HsW.out.drew) (by have := Hl.out; omega) HP.out).mono ?_; rintro z w3 ⟨A3, c3, rfl, hs3, hb3⟩; rw [← Hn.out] at hs3 ⊢; have Hs3 := Lib.hid hs3; have Hb3 := Lib.hid hb3; have hg3 := Hg1.out.drew.below hb3 Hg1.out.lt; have hk3 := hg3.two; have hr3 := Hd.out.drew.below hb3 Hd.out.lt; have hy3 := hr3.two; have hz0 := hr3.frozen 0; have hz1 := hr3.frozen 1; clear hs3 hb3))
  have hf3 := Hs3.out.apart hr3 (by intro x hx hy; obtain ⟨z, rfl⟩ := prs_kind hx; simp at hy)
  have hR := (hr3.set 0 (.int .u32 (tsn : Int))).set 1 (.slice A3 n2 c3)
  have hO := only_set (only_set (only_refl w3 (some w.heap.size)) 0 (.int .u32 (tsn : Int))) 1 (.slice A3 n2 c3)
  have hS := Hs3.out.only' hO hf3
  have hB := below_only (HbW.out.drew.trans (Hb3.out.mono HbW.out.size)) (Nat.le_trans HbW.out.size Hb3.out.size) hO (Nat.le_refl _)
  clear hk hk3 hy3 hz0 hz1 hr3 hg3 hf3 hO
  generalize (w3.setCell ⟨w.heap.size, 0, none⟩ (.int .u32 (tsn : Int))).setCell ⟨w.heap.size, 1, none⟩ (.slice A3 n2 c3) = W4 at hR hS hB ⊢
  have HR := Lib.hid hR
  have HS := Lib.hid hS
  have HB := Lib.hid hB
  clear hR hS hB
  go_wp2
  refine bodyPost_ret (results_cell_tmp_row rfl _ _ w.heap.size _ _ (0, 0) _ rfl HR.out Tryd.underlying52 rfl fw_info) rfl ?_
  exact ⟨A3, c3, by rw [← Hn.out]; rfl, by rw [← Hn.out]; exact HS.out, HB.out⟩
end Go.Proofs.YtnaihmmfnffejaaDoor
