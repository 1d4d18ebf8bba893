/- The contract of ZZReceived. Conditions: the numbers are 1 .. 1000 behind the first; at most 1000 of them. -/
import Derived.Test.YtbmnpadpjbcljaaDoorRvK
namespace Go.Proofs.YtbmnpadpjbcljaaDoor
open Go.RowKit Go.Lib

theorem prs_kind {k : IntKind} {l : List (Int × Int)} {x : Value} (h : x ∈ prs k l) : ∃ z, x = .int k z := by
  obtain ⟨p, _, hp⟩ := List.mem_flatMap.1 h
  simp only [List.mem_cons, List.not_mem_nil, or_false] at hp
  rcases hp with rfl | rfl
  · exact ⟨_, rfl⟩
  · exact ⟨_, rfl⟩

/-- How far the queue's number is. -/
def cOf (first gq : Nat) (w : World) : Nat := dOf first ((w.cell? ⟨gq, 5, none⟩).getD .nilIface)
theorem RvSt.cOf {first : Nat} {l : List Nat} {k B2 gq gm c : Nat} {w wr : World} (h : RvSt first l k B2 gq gm c w wr) : cOf first gq wr = c ∧ c ≤ 1000 := by
  obtain ⟨⟨f, du, ⟨n, ws, a1, a2, a3, a4⟩, ht, hown⟩, _⟩ := h
  have hc := a4.c
  have k5 : wr.cell? ⟨gq, 5, none⟩ = some (.int .u32 (tsnOf first c : Nat)) := by rw [a1.cell]; rfl
  refine ⟨?_, hc⟩
  unfold Go.Proofs.YtbmnpadpjbcljaaDoor.cOf
  rw [k5]
  exact dOf_tsn _ _ (by omega)

/-- What ZZReceived hands back. -/
def ZzGot (first : Nat) (l : List Nat) (w : World) (e : Ending) (w' : World) : Prop :=
  ∃ c A cap du, Pre (came l l.length) c ∧ e = .returned (.tuple #[.int .u32 (tsnOf first c : Nat), .slice A (runs (came l l.length) c (topOf l l.length - c)).length cap, du]) ∧
    Rd w' 2 (runs (came l l.length) c (topOf l l.length - c)).length (.slice A (runs (came l l.length) c (topOf l l.length - c)).length cap) (prs .u16 (gI (runs (came l l.length) c (topOf l l.length - c)))) ∧
    Rd w' 1 (twice l l.length).length du (dcs first (twice l l.length)) ∧ Below w.heap.size w w'

set_option maxRecDepth 20000 in
set_option maxHeartbeats 1600000 in
theorem zzreceived_any (first : Nat) (l : List Nat) (v : Value) (w : World) (hf : first < 4294967296) (h : Rd w 1 l.length v (dcs first l)) (hl : l.length ≤ 1000) (h1 : ∀ x ∈ l, 1 ≤ x ∧ x ≤ 1000) (hT : TabAt w) :
    Calls Tryd.prog 7 #[.int .u32 (first : Int), v] w (ZzGot first l w) := by
  obtain ⟨n, hn⟩ : ∃ n, n = l.length := ⟨_, rfl⟩
  rw [← hn] at h hl
  obtain ⟨A, cp, rfl, hnc, hcm, hl0, h0, hc⟩ := h
  have HC := Lib.hid hc
  have Hn := Lib.hid hn
  have H1 := Lib.hid h1
  have HT := Lib.hid hT
  clear hc h0 hl0 hn h1 hT
  unfold maxLen at hcm
  go_enter Tryd.func7, Tryd.ntmps7
  go_wp2_with fail
  refine (newq_any w).mono ?_
  rintro e w1 ⟨gq, gm, rfl, r1, r2, r3, r4, r5⟩
  go_wp2_with fail
  refine (init_any first gq gm _ _ w1 hf (by omega) r1 r2).mono ?_
  rintro e w4 ⟨rfl, i1, i2, w2, i3, w3, i4, i5⟩
  have hS : RvSt first l 0 w4.heap.size gq gm 0 w w4 := by
    have z1 := i3.size
    have z2 := i4.size
    have z3 := i5.size
    have b2 := below_only r3 (by have := r3.size; omega) i3 (by omega : w.heap.size ≤ gq)
    have b3 := below_only b2 (by have := b2.size; omega) i4 r4
    have b4 := below_only b3 (by have := b3.size; omega) i5 (by omega : w.heap.size ≤ gq)
    refine ⟨⟨fun _ => false, .slice none 0 0, ⟨0, zws, i1, i2, zws_ok first, ⟨(cnt_none fun _ _ => rfl).symm, fun _ h => by (cases h), Nat.zero_le _, Nat.zero_le _⟩⟩, fun d => by simp [came], World.ownsRow_nil _ _ _ _⟩, fun i a b => by omega, b4, Nat.le_refl _, r4, r5, i1.lt⟩
  have hP0 : Pre (came l 0) 0 := ⟨fun i a b => by omega, by simp [came]⟩
  have HI : Hid (RvSt first l 0 w4.heap.size gq gm 0 w w4 ∧ Pre (came l 0) 0) := Lib.hid ⟨hS, hP0⟩
  generalize w4.heap.size = B2 at HI
  clear r1 r2 r3 r4 r5 i1 i2 i3 i4 i5 hS hP0
  go_wp2_with fail
  go_loopw [16] (fun i wr => ∃ k c : Nat, k ≤ n ∧ i = .int .i64 (k : Int) ∧ Hid (RvSt first l k B2 gq gm c w wr ∧ Pre (came l k) c)) (fun i _ => n - (intOf i).toNat)
  case atStart => exact ⟨0, 0, Nat.zero_le _, rfl, HI⟩
  case round =>
    clear HI
    obtain ⟨k, c, hk, rfl, HI⟩ := hrel
    by_cases hlt : k < n
    · obtain ⟨g, o, rfl, hg⟩ := HC.out (by omega)
      have hlk : k < l.length := by have := Hn.out; omega
      have hx : l[k]? = some l[k] := List.getElem?_eq_getElem hlk
      obtain ⟨x1, x2⟩ := H1.out _ (List.getElem_mem hlk)
      generalize l[k] = x at hx x1 x2
      have hcx : wr.cell? ⟨g, o + k, none⟩ = some (.int .u32 (tsnOf first x : Nat)) := by
        have h1 := hg k (.int .u32 (tsnOf first x : Nat)) (by simp [dcs, hx])
        exact (HI.out.1.below.cell (World.block_lt_of_cell? w _ h1)).trans h1
      have Hx := Lib.hid hx
      have hg' := Lib.hid hg
      clear hx hg
      go_wp2_with fail
      refine (push_all hf HI.out.1 Hx.out x1 x2 (by omega)).mono ?_
      rintro e w5 ⟨⟨b, rfl⟩, hS⟩
      have HS := Lib.hid hS
      clear hS HI hcx
      go_wp2_with fail
      go_loopw [23] (fun _ wi => ∃ c, Hid (RvSt first l (k + 1) B2 gq gm c w wi)) (fun _ wi => 1001 - cOf first gq wi)
      case atStart => exact ⟨c, HS⟩
      case round =>
        clear HS
        rename_i wi
        obtain ⟨c', HS⟩ := hrel
        obtain ⟨hc1, hc2⟩ := HS.out.cOf
        go_wp2_with fail
        refine (pop_all hf HS.out).mono ?_
        rintro e w6 ⟨b, rfl, ⟨rfl, hc3, hS6⟩ | ⟨rfl, rfl, hp⟩⟩
        · have hc6 := hS6.cOf
          have HS6 := Lib.hid hS6
          clear hS6
          go_wp2
          exact ⟨⟨c' + 1, HS6⟩, by rw [hc6.1, hc1]; omega⟩
        · have HI' : Hid (RvSt first l (k + 1) B2 gq gm c' w _ ∧ Pre (came l (k + 1)) c') := Lib.hid ⟨HS.out, hp⟩
          clear HS hp
          go_wp2
          exact ⟨⟨k + 1, c', by omega, by go_num, HI'⟩, by simp [intOf]; omega⟩
    · obtain rfl : k = n := by omega
      obtain ⟨⟨⟨f, du, hq, ht, hown⟩, hpre, hb, hs, g1, g2, g3⟩, hP⟩ := HI.out
      have hbs := hb.size
      have hT2 := HT.out.below hb
      obtain ⟨n', ws, a1, a2, a3, a4⟩ := id hq
      have htc := a4.top
      have G := Lib.hid (gaps_all hf hq ht hP hT2)
      have hrl := runs_le (p := f) (c := c) (k := topOf l k - c)
      have hR := runs_tells (k := topOf l k - c) ht
      unfold Gaps at G
      generalize runs f c (topOf l k - c) = R at G hrl hR
      obtain ⟨m, hm⟩ : ∃ m, m = R.length := ⟨_, rfl⟩
      rw [← hm] at G hrl
      have Hm := Lib.hid hm
      have HR := Lib.hid hR
      have A1 := Lib.hid a1
      have HO := Lib.hid hown
      have HB := Lib.hid hb
      have HP := Lib.hid hP
      have hlq := a1.lt
      clear hR hm a1 a2 a3 a4 hown hb hq ht hpre hT2 HI hP
      go_wp2_with fail
      refine (getc_any first c (topOf l k) n' gq gm du _ wr A1.out).mono ?_
      rintro e w5 ⟨rfl, rfl⟩
      go_wp2_with fail
      refine G.out.mono ?_
      rintro e w6 ⟨A6, c6, rfl, d6, b6⟩
      have D6 := Lib.hid d6
      have B6 := Lib.hid b6
      clear d6 b6
      go_wp2_with fail
      refine (gaps_any (.slice A6 m c6) (gI R) w6 (by rw [gI_length, ← gI_cells, ← Hm.out]; exact D6.out) (by rw [gI_length, ← Hm.out]; omega)).mono ?_
      rintro e w7 ⟨A7, c7, rfl, d7, b7⟩
      rw [gI_length, ← Hm.out] at d7 ⊢
      have D7 := Lib.hid d7
      have B7 := Lib.hid b7
      have r6 := A1.out.below B6.out hlq
      have r7 := r6.below b7 r6.lt
      have R7 := Lib.hid r7
      clear d7 b7 r6 r7
      go_wp2_with fail
      refine (popd_any first c (topOf l k) n' gq gm du _ w7 R7.out).mono ?_
      rintro e w9 ⟨rfl, w8, b8, b9⟩
      have z6 := B6.out.size
      have z7 := B7.out.size
      have z8 := b8.size
      have d9 : Rd w9 2 m (.slice A7 m c7) (prs .u16 (gI R)) := (D7.out.below b8).only' b9 ((D7.out.below b8).apart (R7.out.below b8 R7.out.lt) (by intro x hx hy; obtain ⟨z, rfl⟩ := prs_kind hx; obtain ⟨_, _, e⟩ := own_slice HO.out; rw [e] at hy; simp [qcells] at hy))
      have e9 : Rd w9 1 (twice l k).length du (dcs first (twice l k)) := ((((Rd.of_own HO.out).below B6.out).below B7.out).below b8).only' b9 (fun _ => own_far HO.out g3)
      have b10 := below_only (((HB.out.trans (B6.out.mono hbs)).trans (B7.out.mono (by omega))).trans (b8.mono (by omega))) (by omega) b9 (by omega : w.heap.size ≤ gq)
      have D9 := Lib.hid d9
      have E9 := Lib.hid e9
      have B10 := Lib.hid b10
      clear d9 e9 b10 b8 b9
      go_wp2
      go_ret3
      have hm := Hm.out
      have hn := Hn.out
      have hR := HR.out
      subst hm
      refine ⟨c, A7, c7, du, ?_⟩
      rw [← hn, ← hR]
      exact ⟨HP.out, rfl, D9.out, E9.out, B10.out⟩
end Go.Proofs.YtbmnpadpjbcljaaDoor
