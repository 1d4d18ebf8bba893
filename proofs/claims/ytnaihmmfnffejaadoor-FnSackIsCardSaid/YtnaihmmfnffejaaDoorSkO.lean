/- Contracts of zzGaps, ZZSackOf and SackOf. Conditions: the numbers fit; at most 1000 gaps and 1000 numbers that came twice. -/
import Derived.Test.YtnaihmmfnffejaaDoorSkU
import Derived.Test.YtnaihmmfnffejaaDoorFwO
namespace Go.Proofs.YtnaihmmfnffejaaDoor
open Go.RowKit Go.Lib

theorem zs_info : (Tryd.prog.info? 85).map (·.size) = some 4 := by kernel_rfl
theorem sk_info : (Tryd.prog.info? 44).map (·.size) = some 4 := by kernel_rfl

set_option maxRecDepth 20000 in
theorem gaps_any (v : Value) (l : List (Int × Int)) (w : World) (h : Rd w 2 l.length v (prs .u16 l)) (hl : l.length ≤ 1000000) :
    Calls Tryd.prog 71 #[v] w (RetRd w 2 l.length (prs .u16 l)) := by
  obtain ⟨n, hn⟩ : ∃ n, n = l.length := ⟨_, rfl⟩
  rw [← hn] at h hl ⊢
  obtain ⟨A, c, rfl, hnc, hcm, hl0, h0, hc⟩ := h
  have HC := Lib.hid hc
  have Hn := Lib.hid hn
  clear hc h0 hl0 hn
  unfold maxLen at hcm
  go_enter Tryd.func71, Tryd.ntmps71
  go_wp2
  go_loopw [3, 8] (fun v i wr => ∃ k : Nat, k ≤ n ∧ i = .int .i64 k ∧ wr.ownsRow w.heap.size 126 2 v k (prs .u16 (l.take k)) ∧ Below w.heap.size w wr) (fun _ i _ => n - (intOf i).toNat)
  case atStart => exact ⟨0, Nat.zero_le _, rfl, World.ownsRow_nil _ _ _ _, Below.refl _ _⟩
  case round =>
    obtain ⟨k, hk, rfl, hown, hb⟩ := hrel
    by_cases hlt : k < n
    · obtain ⟨g, o, rfl, hg⟩ := HC.out (by omega)
      have hlk : k < l.length := by have := Hn.out; omega
      have hx : l[k]? = some l[k] := List.getElem?_eq_getElem hlk
      generalize l[k] = x at hx
      obtain ⟨x1, x2⟩ := x
      obtain ⟨hc1, hc2⟩ := pr_cells hg hb hx
      have hbs := hb.size
      have Hx := Lib.hid hx
      have Hown := Lib.hid hown
      clear hx hg hown
      go_wp2_with (at_builtin; refine wpList_append_rd _ rfl _ _ rfl h2T w.heap.size _ k _ rfl ((Hown.out.alloc _).alloc _) _ 1 [_, _] rfl (Rd.lit2 _ _ _ _ (by simp)) ?c1 ?c2 ?c3 ?c4 ?_)
      case c1 => first | exact ⟨rfl, rfl⟩ | simp [Value.oneCell']
      case c2 => unfold maxLen; omega
      case c3 => omega
      case c4 => first | omega | (simp; omega)
      intro v1 w1 hown1 hg1 _
      obtain ⟨hown', hb'⟩ := prs_rel Hx.out hb hbs Hown.out hown1 hg1
      clear hown1 hg1 Hown hb hc1 hc2
      go_wp2
      go_roundw
      case rel => exact ⟨k + 1, by omega, by go_num, hown', hb'⟩
      case measure => simp [intOf]; omega
    · obtain rfl : k = n := by omega
      go_wp2
      go_ret
      have hn := Hn.out
      refine RetRd.mk (Rd.of_own (e := 126) (base := w.heap.size) ?_) hb
      rw [hn, List.take_length] at hown
      rw [hn]
      exact hown

def SkGot (w : World) (k : IntKind) (tsn win : Nat) (g : List (Int × Int)) (l : List Int) (o : Value) (e : Ending) (w' : World) : Prop :=
  ∃ A2 c2 B2 d2, e = .returned (.tuple #[.agg #[.int .u32 (tsn : Int), .int .u32 (win : Int), .slice A2 g.length c2, .slice B2 l.length d2], o]) ∧ Rd w' 2 g.length (.slice A2 g.length c2) (prs k g) ∧ Rd w' 1 l.length (.slice B2 l.length d2) (u32s l) ∧ Below w.heap.size w w'

theorem Row.far4 {w : World} {g g' : Nat} {t : TypeId} {xs : List Value} (h : Row w g t xs) (hne : g ≠ g') (a0 a1 a2 a3 : Value) : Row ((((w.setCell ⟨g', 0, none⟩ a0).setCell ⟨g', 1, none⟩ a1).setCell ⟨g', 2, none⟩ a2).setCell ⟨g', 3, none⟩ a3) g t xs :=
  Row.far (Row.far (Row.far (Row.far h (p := ⟨g', 0, none⟩) hne a0) (p := ⟨g', 1, none⟩) hne a1) (p := ⟨g', 2, none⟩) hne a2) (p := ⟨g', 3, none⟩) hne a3
theorem Row.set4 {w : World} {g : Nat} {t : TypeId} {b0 b1 b2 b3 : Value} (h : Row w g t [b0, b1, b2, b3]) (a0 a1 a2 a3 : Value) : Row ((((w.setCell ⟨g, 0, none⟩ a0).setCell ⟨g, 1, none⟩ a1).setCell ⟨g, 2, none⟩ a2).setCell ⟨g, 3, none⟩ a3) g t [a0, a1, a2, a3] := (((h.set 0 a0).set 1 a1).set 2 a2).set 3 a3
theorem only_set4 (w : World) (g : Nat) (a0 a1 a2 a3 : Value) : w.grownBy ((((w.setCell ⟨g, 0, none⟩ a0).setCell ⟨g, 1, none⟩ a1).setCell ⟨g, 2, none⟩ a2).setCell ⟨g, 3, none⟩ a3) (some g) := only_set (only_set (only_set (only_set (only_refl w (some g)) 0 a0) 1 a1) 2 a2) 3 a3
theorem u32s_kind {l : List Int} {x : Value} (h : x ∈ u32s l) : ∃ z, x = .int .u32 z := by
  obtain ⟨p, _, hp⟩ := List.mem_map.1 h
  exact ⟨p, hp.symm⟩

theorem Row.sk4 {w : World} {g : Nat} {t : TypeId} {a0 a1 a2 a3 a4 a5 a6 : Value} (h : Row w g t [a0, a1, a2, a3, a4, a5, a6]) : w.cell? ⟨g, 3, none⟩ = some a3 ∧ w.cell? ⟨g, 4, none⟩ = some a4 ∧ w.cell? ⟨g, 5, none⟩ = some a5 ∧ w.cell? ⟨g, 6, none⟩ = some a6 := by
  simp only [h.cell]
  exact ⟨rfl, rfl, rfl, rfl⟩

set_option maxRecDepth 20000 in
set_option maxHeartbeats 1600000 in
theorem zzskof_any (A : Option Addr) (n0 c : Nat) (tsn win : Nat) (g : List (Int × Int)) (l : List Int) (w : World) (hs : Sl w (.slice A n0 c) (chunk 3 0 (skbody tsn win g l))) (hl : g.length ≤ 1000) (hl' : l.length ≤ 1000) (ht : tsn < 4294967296) (hw : win < 4294967296) (hp : ∀ p ∈ g, Ok16 p) (hz : ∀ z ∈ l, Ok32 z) :
    Calls Tryd.prog 52 #[.slice A n0 c] w (SkGot w .u16 tsn win g l .nilIface) := by
  have hf : Far (.slice A n0 c) (w.heap.size + 1) := hs.far (by rw [chunk_length]; omega) (by omega)
  have Hs := Lib.hid hs
  have Hf := Lib.hid hf
  have Hl := Lib.hid hl
  have Hl' := Lib.hid hl'
  have Ht := Lib.hid ht
  have Hw := Lib.hid hw
  have HP := Lib.hid hp
  have HZ := Lib.hid hz
  clear hs hf hl hl' ht hw hp hz
  go_enter Tryd.func52, Tryd.ntmps52
  go_wp2_with fail
  refine (skunmarshal (w.heap.size + 1) _ A n0 c tsn win g l _ (Row.new' _ _ _ (by simp)) ((Hs.out.alloc _).alloc _) Hf.out Hl.out Hl'.out Ht.out Hw.out HP.out HZ.out).mono ?_
  rintro z w2 ⟨v2, A2, c2, B2, d2, rfl, hr2, hs2, hs3, hg2, hfB⟩
  have hr0 := ((Row.new w 85 #[.int .u32 0, .int .u32 0, .slice none 0 0, .slice none 0 0]).alloc _).grown hg2 (by intro e; injection e with e; omega)
  have hb2 : Below w.heap.size w w2 := below_only (((Below.refl w.heap.size w).alloc (Nat.le_refl _) _).alloc (by simp) _) (by simp; omega) hg2 (by omega)
  obtain ⟨n, hn⟩ : ∃ n, n = g.length := ⟨_, rfl⟩
  obtain ⟨q, hq⟩ : ∃ q, q = l.length := ⟨_, rfl⟩
  rw [← hn] at hr2 hs2
  rw [← hq] at hr2 hs3
  have Hn := Lib.hid hn
  have Hq := Lib.hid hq
  have Hr0 := Lib.hid hr0
  have Hr2 := Lib.hid hr2
  have Hb2 := Lib.hid hb2
  have S2 := Lib.hid hs2
  have S3 := Lib.hid hs3
  have hfB' := hfB w.heap.size (by simp; omega)
  rw [← hq] at hfB'
  have HFB := Lib.hid hfB'
  have hz2 : w.heap.size + 1 < w2.heap.size := hr2.lt
  have hne : w.heap.size + 1 ≠ w.heap.size := by omega
  have hk : w2.drew.cell? ⟨w.heap.size + 1, 3, none⟩ = some (.int .u32 (tsn : Int)) ∧ w2.drew.cell? ⟨w.heap.size + 1, 4, none⟩ = some (.int .u32 (win : Int)) ∧ w2.drew.cell? ⟨w.heap.size + 1, 5, none⟩ = some (.slice A2 n c2) ∧ w2.drew.cell? ⟨w.heap.size + 1, 6, none⟩ = some (.slice B2 q d2) := by
    simp only [hr2.drew.cell]; exact ⟨rfl, rfl, rfl, rfl⟩
  clear hr2 hr0 hg2 hb2 hs2 hs3 hn hq hfB hfB'
  go_upto_region 5 with fail
  go_region_held3 (fun w' => w'.cell? ⟨w.heap.size + 1, 3, none⟩ = some (.int .u32 (tsn : Int)) ∧ w'.cell? ⟨w.heap.size + 1, 4, none⟩ = some (.int .u32 (win : Int)) ∧ w'.cell? ⟨w.heap.size + 1, 5, none⟩ = some (.slice A2 n c2) ∧ w'.cell? ⟨w.heap.size + 1, 6, none⟩ = some (.slice B2 q d2)) (first | (with_reducible exact hk) | (with_reducible exact hk3) | exact Row.sk4 (Row.far4 hg3 hne _ _ _ _))
    (first | (go_at_call 71; refine (gaps_any _ g _ (by rw [← Hn.out]; exact S2.out.drew) (by have := Hl.out; omega)).mono ?_; rintro z w3 ⟨A3, c3, rfl, hs3, hb3⟩; rw [← Hn.out] at hs3 ⊢; have Hs3 := Lib.hid hs3; have Hb3 := Lib.hid hb3; have hg3 := Hr2.out.drew.below hb3 Hr2.out.lt; have hk3 := hg3.sk4; have hr3 := Hr0.out.drew.below hb3 Hr0.out.lt; have hy3 := hr3.four; have hz0 := hr3.frozen 0; have hz1 := hr3.frozen 1; have hz2 := hr3.frozen 2; have hz3 := hr3.frozen 3; have Hd3 := Lib.hid (S3.out.drew.below hb3); clear hs3 hb3))
  have hf3 := Hs3.out.apart hr3 (by intro x hx hy; obtain ⟨z, rfl⟩ := prs_kind hx; simp at hy)
  have hR := hr3.set4 (.int .u32 (tsn : Int)) (.int .u32 (win : Int)) (.slice A3 n c3) (.slice B2 q d2)
  have hO := only_set4 w3 w.heap.size (.int .u32 (tsn : Int)) (.int .u32 (win : Int)) (.slice A3 n c3) (.slice B2 q d2)
  have hS := Hs3.out.only' hO hf3
  have hS' := Hd3.out.only' hO (fun _ => HFB.out)
  have hB := below_only (Hb2.out.drew.trans (Hb3.out.mono Hb2.out.size)) (Nat.le_trans Hb2.out.size Hb3.out.size) hO (Nat.le_refl _)
  clear hk hk3 hy3 hz0 hz1 hz2 hz3 hr3 hg3 hf3 hO
  generalize (((w3.setCell ⟨w.heap.size, 0, none⟩ (.int .u32 (tsn : Int))).setCell ⟨w.heap.size, 1, none⟩ (.int .u32 (win : Int))).setCell ⟨w.heap.size, 2, none⟩ (.slice A3 n c3)).setCell ⟨w.heap.size, 3, none⟩ (.slice B2 q d2) = W4 at hR hS hS' hB ⊢
  have HR := Lib.hid hR
  have HS := Lib.hid hS
  have HS' := Lib.hid hS'
  have HB := Lib.hid hB
  clear hR hS hS' hB
  go_wp2
  refine bodyPost_ret (results_cell_tmp_row rfl _ _ w.heap.size _ _ (0, 0) _ rfl HR.out Tryd.underlying85 rfl zs_info) rfl ?_
  exact ⟨A3, c3, B2, d2, by rw [← Hn.out, ← Hq.out]; rfl, by rw [← Hn.out]; exact HS.out, by rw [← Hq.out]; exact HS'.out, HB.out⟩

theorem own_apart0 {w : World} {B : Nat} {e : TypeId} {size n : Nat} {v : Value} {xs : List Value} (h : w.ownsRow B e size v n xs) {g : Nat} (hg : g < B) : 0 < n * size → Far v g := fun _ => own_far h hg

set_option maxRecDepth 20000 in
set_option maxHeartbeats 1600000 in
theorem skof_any (v : Value) (tsn win : Nat) (g : List (Int × Int)) (l : List Int) (w : World) (hs : Sl w v (chunk 3 0 (skbody tsn win g l))) (hl : g.length ≤ 1000) (hl' : l.length ≤ 1000) (ht : tsn < 4294967296) (hw : win < 4294967296) (hp : ∀ p ∈ g, Ok16 p) (hz : ∀ z ∈ l, Ok32 z) :
    Calls Tryd.prog 25 #[v] w (SkGot w .i64 tsn win g l (.bool true)) := by
  have Hs := Lib.hid hs
  have Hl := Lib.hid hl
  have Hl' := Lib.hid hl'
  have HP := Lib.hid hp
  have HZ := Lib.hid hz
  have Ht := Lib.hid ht
  have Hw := Lib.hid hw
  clear hs hl hp ht hl' hw hz
  go_enter Tryd.func25, Tryd.ntmps25
  go_wp2_with fail
  refine (copied_any _ _ _ (Hs.out.alloc _) (by rw [chunk_length, skbody_length]; have := Hl.out; have := Hl'.out; omega)).mono ?_
  rintro z w1 ⟨A1, n1, c1, rfl, hs1, hb1⟩
  have hd := Row.new w 44 #[.int .u32 0, .int .u32 0, .slice none 0 0, .slice none 0 0]
  have Hd1 := Lib.hid (hd.below hb1 hd.lt)
  have Hs1 := Lib.hid hs1
  have Hb1 := Lib.hid (((Below.refl w.heap.size w).alloc (Nat.le_refl _) (.cells #[.int .u32 0, .int .u32 0, .slice none 0 0, .slice none 0 0] 44)).trans (hb1.mono (by simp)))
  clear hs1 hb1 hd
  go_wp2_with fail
  refine (zzskof_any A1 n1 c1 tsn win g l _ Hs1.out Hl.out Hl'.out Ht.out Hw.out HP.out HZ.out).mono ?_
  rintro z w2 ⟨A2, c2, B2, d2, rfl, hs2, hs2', hb2⟩
  obtain ⟨n, hn⟩ : ∃ n, n = g.length := ⟨_, rfl⟩
  obtain ⟨q, hq⟩ : ∃ q, q = l.length := ⟨_, rfl⟩
  rw [← hn] at hs2 ⊢
  rw [← hq] at hs2' ⊢
  have Hn := Lib.hid hn
  have Hq := Lib.hid hq
  have Hd2 := Lib.hid (Hd1.out.below hb2 Hd1.out.lt)
  have Hs2 := Lib.hid hs2
  have Hs2' := Lib.hid hs2'
  have Hb2 := Lib.hid (below_step Hb1.out Hb1.out.size hb2)
  clear hs2 hb2 hn hs2' hq
  go_wp2_with fail
  have hg1 := Row.new w2 85 #[.int .u32 (tsn : Int), .int .u32 (win : Int), .slice A2 n c2, .slice B2 q d2]
  have hd1 := Hd2.out.alloc (.cells #[.int .u32 (tsn : Int), .int .u32 (win : Int), .slice A2 n c2, .slice B2 q d2] 85)
  have hsW := Hs2.out.alloc (.cells #[.int .u32 (tsn : Int), .int .u32 (win : Int), .slice A2 n c2, .slice B2 q d2] 85)
  have hsW' := Hs2'.out.alloc (.cells #[.int .u32 (tsn : Int), .int .u32 (win : Int), .slice A2 n c2, .slice B2 q d2] 85)
  have hbW := Hb2.out.alloc Hb2.out.size (.cells #[.int .u32 (tsn : Int), .int .u32 (win : Int), .slice A2 n c2, .slice B2 q d2] 85)
  have hne : w2.heap.size ≠ w.heap.size := by have := Hd2.out.lt; omega
  generalize (w2.alloc (.cells #[.int .u32 (tsn : Int), .int .u32 (win : Int), .slice A2 n c2, .slice B2 q d2] 85)) = W at hg1 hd1 hsW hsW' hbW ⊢
  generalize w2.heap.size = G at hg1 hne ⊢
  have hk := Row.four (w := W.drew) hg1
  have Hg1 := Lib.hid hg1
  have Hd := Lib.hid hd1
  have HsW := Lib.hid hsW
  have HsW' := Lib.hid hsW'
  have HbW := Lib.hid hbW
  have hl1 : n ≤ 1000 := by have := Hl.out; have := Hn.out; omega
  have hl2 : q ≤ 1000 := by have := Hl'.out; have := Hq.out; omega
  clear hg1 hd1 hsW hsW' hbW Hs Hd1 Hs1 Hb1 Hd2 Hs2 Hs2' Hb2
  go_region_held3 (fun w' => w'.cell? ⟨G, 0, none⟩ = some (.int .u32 (tsn : Int)) ∧ w'.cell? ⟨G, 1, none⟩ = some (.int .u32 (win : Int)) ∧ w'.cell? ⟨G, 2, none⟩ = some (.slice A2 n c2) ∧ w'.cell? ⟨G, 3, none⟩ = some (.slice B2 q d2)) (first | (with_reducible exact hk) | (with_reducible exact hk3) | (with_reducible exact hk4) | exact Row.four (Row.far4 hg4 hne _ _ _ _))
    (first
      | (go_at_call 53; refine (pairs_any _ g _ (by rw [← Hn.out]; exact HsW.out.drew) (by rw [← Hn.out]; omega) HP.out).mono ?_; rintro z w3 ⟨A3, c3, rfl, hs3, hb3⟩; rw [← Hn.out] at hs3 ⊢; have Hs3 := Lib.hid hs3; have Hb3 := Lib.hid hb3; have hg3 := Hg1.out.drew.below hb3 Hg1.out.lt; have HG3 := Lib.hid hg3; have hk3 := hg3.four; have HR3 := Lib.hid (Hd.out.drew.below hb3 Hd.out.lt); clear hs3 hb3 hg3)
      | (refine step_append_rd _ rfl _ _ rfl uT w3.heap.size (.slice none 0 0) 0 [] rfl (World.ownsRow_nil _ _ _ _) _ q (u32s l) rfl (HsW'.out.drew.below Hb3.out) (u32s_one l) (by unfold maxLen; omega) (by omega) (Nat.le_refl _) ?_; intro v4 w4 hown4 hg4' _; rw [Nat.zero_add, List.nil_append] at hown4; obtain ⟨A4, c4, e4⟩ := own_slice hown4; subst e4; have hb4 : Below w3.heap.size w3 w4 := (Below.refl _ _).grown hg4' (Nat.le_refl _) (fun k hk => by cases hk); have U4 := Lib.hid hown4; have B4 := Lib.hid hb4; have Q4 := Lib.hid (Hs3.out.below hb4); have hg4 := HG3.out.below hb4 HG3.out.lt; have hk4 := hg4.four; have hr4 := HR3.out.below hb4 HR3.out.lt; have hy4 := hr4.four; have hz0 := hr4.frozen 0; have hz1 := hr4.frozen 1; have hz2 := hr4.frozen 2; have hz3 := hr4.frozen 3; clear hb4 hown4 hg4'))
  have hw3 : w.heap.size < w3.heap.size := HR3.out.lt
  have hf3 := Q4.out.apart hr4 (by intro x hx hy; obtain ⟨z, rfl⟩ := prs_kind hx; simp at hy)
  have hf4 := own_apart0 U4.out hw3
  have hR := hr4.set4 (.int .u32 (tsn : Int)) (.int .u32 (win : Int)) (.slice A3 n c3) (.slice A4 q c4)
  have hO := only_set4 w4 w.heap.size (.int .u32 (tsn : Int)) (.int .u32 (win : Int)) (.slice A3 n c3) (.slice A4 q c4)
  have hS := Q4.out.only' hO hf3
  have hS' := (Rd.of_own U4.out).only' hO hf4
  have d1 := below_step HbW.out.drew HbW.out.size Hb3.out
  have hB := below_only (below_step d1 d1.size B4.out) (below_step d1 d1.size B4.out).size hO (Nat.le_refl _)
  clear hk hk3 hk4 hy4 hz0 hz1 hz2 hz3 hr4 hg4 hf3 hf4 hO d1
  generalize (((w4.setCell ⟨w.heap.size, 0, none⟩ (.int .u32 (tsn : Int))).setCell ⟨w.heap.size, 1, none⟩ (.int .u32 (win : Int))).setCell ⟨w.heap.size, 2, none⟩ (.slice A3 n c3)).setCell ⟨w.heap.size, 3, none⟩ (.slice A4 q c4) = W4 at hR hS hS' hB ⊢
  have HR := Lib.hid hR
  have HS := Lib.hid hS
  have HS' := Lib.hid hS'
  have HB := Lib.hid hB
  clear hR hS hS' hB
  go_wp2
  refine bodyPost_ret (results_cell_tmp_row rfl _ _ w.heap.size _ _ (0, 0) _ rfl HR.out Tryd.underlying44 rfl sk_info) rfl ?_
  exact ⟨A3, c3, A4, c4, by rw [← Hn.out, ← Hq.out]; rfl, by rw [← Hn.out]; exact HS.out, by rw [← Hq.out]; exact HS'.out, HB.out⟩
end Go.Proofs.YtnaihmmfnffejaaDoor
