/- Contracts of HEARTBEAT's and HEARTBEAT ACK's unmarshal, at a chunk with one parameter. Conditions: the length fits 16 bits. -/
import Derived.Test.YthahoakeibfpcaaDoorHbt
namespace Go.Proofs.YthahoakeibfpcaaDoor
open Go.RowKit Go.Lib

/-- What a heartbeat's unmarshal leaves. -/
def ReadsB (w : World) (gc : Nat) (t : TypeId) (l : List UInt8) (e : Ending) (w' : World) : Prop :=
  ∃ A n c Ap cp gi ti c0 c1 c2 c3 y0 y1 y2, e = .returned .nilIface ∧ Row w' gc t [y0, y1, y2, .slice Ap 1 cp] ∧ Rd w' 1 1 (.slice Ap 1 cp) [.iface 42 (.pointer (some ⟨gi, 0, none⟩))] ∧
    Row w' gi ti [c0, c1, c2, c3, .slice A n c] ∧ Sl w' (.slice A n c) l ∧ w.grownBy w' (some gc)

theorem pT : ElT Tryd.prog 50 62 .nilIface 1 16 := ⟨Tryd.underlying50, by kernel_rfl, rfl, by decide⟩

set_option maxRecDepth 20000 in
theorem hbackUnmarshal (gc : Nat) (t : TypeId) (c0 c1 c2 : Value) (A : Option Addr) (n c : Nat) (l : List UInt8) (w : World)
    (hr : Row w gc t [c0, c1, c2, .slice none 0 0]) (hs : Sl w (.slice A n c) (UInt8.ofNat 5 :: 0 :: (be 2 (4 + (tlv 1 l).length) ++ (tlv 1 l ++ List.replicate 0 0)))) (hf : Far (.slice A n c) gc) (hl : l.length ≤ 65527) :
    Calls Tryd.prog 19 #[.pointer (some ⟨gc, 0, none⟩), .slice A n c] w (ReadsB w gc t l) := by
  have Hr := Lib.hid hr
  have Hs := Lib.hid hs
  have Hf := Lib.hid hf
  clear hr hs hf
  go_enter Tryd.func19, Tryd.ntmps19
  go_wp2_with fail
  refine (hunmarshal_ok gc t c0 c1 c2 [.slice none 0 0] A n c (UInt8.ofNat 5) 0 (tlv 1 l) 0 w Hr.out Hs.out Hf.out (by rw [tlv_length]; omega) (by omega)).mono ?_
  rintro e w2 ⟨Ar, nr, cr, rfl, hR2, hS2, hF2, hG2⟩
  have hn := hS2.len
  rw [tlv_length] at hn
  have HS2 := Lib.hid hS2
  obtain ⟨A', c', hv, hnc, hcm, hl0, h0, hc⟩ := hS2
  injection hv with e1 e2 e3
  subst e1 e3
  obtain ⟨gr, or_, rfl, hg⟩ := hc (by rw [tlv_length]; omega)
  have j0 : w2.cell? ⟨gc, 0, none⟩ = some (.int .u8 5) := by rw [hR2.cell]; rfl
  have j2 : w2.cell? ⟨gc, 2, none⟩ = some (.slice (some ⟨gr, or_, none⟩) nr cr) := by rw [hR2.cell]; rfl
  have HR2 := Lib.hid hR2
  have HF2 := Lib.hid hF2
  have HG2 := Lib.hid hG2
  have q0 : ¬ (nr : Int) = 0 := by omega
  have q4 : ¬ (nr : Int) < 4 := by omega
  have Hn := Lib.hid hn
  have hnc : nr ≤ cr := by rw [tlv_length] at hnc; omega
  have hcr : cr ≤ 9223372036854775807 := by unfold maxLen at hcm; omega
  clear hR2 hF2 hG2 hcm hl0 h0 hc hg e2 hn
  go_wp2_with fail
  refine (ppt_any _ _ _ 1 (be 2 (4 + l.length) ++ l) w2 HS2.out (by omega)).mono ?_
  rintro e w3 ⟨rfl, hb3⟩
  have hR3 := HR2.out.below hb3 HR2.out.lt
  have HS3 := Lib.hid (HS2.out.below hb3)
  have hG3 := only_below HG2.out hb3
  have HG3 := Lib.hid hG3
  have j2 : (w3.alloc (.cells #[.int .u16 0, .int .u8 0, .int .i64 0, .slice none 0 0] 47)).cell? ⟨gc, 2, none⟩ = some (.slice (some ⟨gr, or_, none⟩) nr cr) := by rw [(hR3.alloc _).cell]; rfl
  have HR3 := Lib.hid hR3
  have hz3 : w.heap.size ≤ w3.heap.size := hG3.size
  clear hb3 hR3 hG3 j0
  go_wp2_with fail
  refine (phunmarshal w3.heap.size 47 _ _ _ _ [] _ nr cr 1 l [] _ (Row.new' _ _ _ rfl) (by rw [List.append_nil]; exact HS3.out.alloc _) (HS3.out.far (by rw [tlv_length]; omega) (Nat.le_refl _)) (by omega) (by omega)).mono ?_
  rintro e w4 ⟨Aq, nq, cq, act, rfl, hR4, _, _, hG4⟩
  have hRc4 := (HR3.out.alloc (.cells #[.int .u16 0, .int .u8 0, .int .i64 0, .slice none 0 0] 47)).grown hG4 (by intro e; injection e with e; have := HR3.out.lt; omega)
  have HS4 := Lib.hid ((HS3.out.alloc (.cells #[.int .u16 0, .int .u8 0, .int .i64 0, .slice none 0 0] 47)).only hG4 (HS3.out.far (by rw [tlv_length]; omega) (Nat.le_refl _)))
  have hG5 := only_new (only_alloc HG3.out (.cells #[.int .u16 0, .int .u8 0, .int .i64 0, .slice none 0 0] 47)) hG4 hz3
  have HG4 := Lib.hid hG5
  rw [← Hn.out] at hR4
  have p2 : w4.cell? ⟨w3.heap.size, 2, none⟩ = some (.int .i64 (nr : Int)) := by rw [hR4.cell]; rfl
  have j2 : w4.cell? ⟨gc, 2, none⟩ = some (.slice (some ⟨gr, or_, none⟩) nr cr) := by rw [hRc4.cell]; rfl
  have HR4 := Lib.hid hRc4
  have P2 := Lib.hid p2
  have hz4 : w.heap.size ≤ w4.heap.size := hG5.size
  have q5 : ¬ (nr : Int) > (nr : Int) := by omega
  have q6 : (nr : Int) ≤ (cr : Int) := by omega
  clear hR4 hRc4 hG4 hG5 p2
  go_wp2_with fail
  refine (phlength _ _ _ P2.out).mono ?_
  rintro e w4' ⟨rfl, rfl⟩
  go_wp2_with fail
  refine (buildParam_hb _ nr cr l [] _ (by rw [List.append_nil]; exact HS4.out) (by omega)).mono ?_
  rintro e w5 ⟨gi, ti, A5, n5, c5, y0, y1, y2, y3, rfl, hR5, hS5, hF5, hgi, hB5⟩
  have hRc5 := HR4.out.below hB5 HR4.out.lt
  have hG5 := only_below HG4.out hB5
  have hne : ¬ gi = gc := by have := HR4.out.lt; omega
  have HR5 := Lib.hid hRc5
  have HI5 := Lib.hid hR5
  have HS5 := Lib.hid hS5
  have HG5 := Lib.hid hG5
  have hz5 : w.heap.size ≤ w5.heap.size := hG5.size
  have j2 : (w5.alloc (.cells #[.iface 42 (.pointer (some ⟨gi, 0, none⟩))] 62)).cell? ⟨gc, 2, none⟩ = some (.slice (some ⟨gr, or_, none⟩) nr cr) := by rw [(hRc5.alloc _).cell]; rfl
  have j3 : (w5.alloc (.cells #[.iface 42 (.pointer (some ⟨gi, 0, none⟩))] 62)).cell? ⟨gc, 3, none⟩ = some (.slice none 0 0) := by rw [(hRc5.alloc _).cell]; rfl
  have f3 := (hRc5.alloc (.cells #[.iface 42 (.pointer (some ⟨gi, 0, none⟩))] 62)).frozen 3
  have i3 : w5.cell? ⟨gc, 3, none⟩ = some (.slice none 0 0) := by rw [hRc5.cell]; rfl
  have HF5 := Lib.hid (hF5 gc HF2.out)
  clear hR5 hS5 hF5 hRc5 hG5 hB5
  by_cases hcc : cr = nr
  all_goals
    go_wp2
    go_ret
    have hG6 : (w5.alloc (.cells #[.iface 42 (.pointer (some ⟨gi, 0, none⟩))] 62)).grownBy ((w5.alloc (.cells #[.iface 42 (.pointer (some ⟨gi, 0, none⟩))] 62)).setCell ⟨gc, 3, none⟩ (.slice (some ⟨w5.heap.size, 0, none⟩) 1 1)) (some gc) := only_set (only_refl _ _) 3 _
    exact ⟨A5, n5, c5, _, _, gi, ti, _, _, _, _, _, _, _, rfl, (HR5.out.alloc _).set 3 _, ((Rd.lit w5 _ [_] 1 rfl (by omega)).only hG6 (fun A c e => by cases e; have := HR5.out.lt; simp; omega)), (HI5.out.alloc _).grown hG6 (by intro e; injection e with e; exact hne e), (HS5.out.alloc _).only hG6 HF5.out, only_trans (only_alloc HG5.out _) hG6⟩

set_option maxRecDepth 20000 in
theorem hbUnmarshal (gc : Nat) (t : TypeId) (c0 c1 c2 : Value) (A : Option Addr) (n c : Nat) (l : List UInt8) (w : World)
    (hr : Row w gc t [c0, c1, c2, .slice none 0 0]) (hs : Sl w (.slice A n c) (UInt8.ofNat 4 :: 0 :: (be 2 (4 + (tlv 1 l).length) ++ (tlv 1 l ++ List.replicate 0 0)))) (hf : Far (.slice A n c) gc) (hl : l.length ≤ 65527) :
    Calls Tryd.prog 20 #[.pointer (some ⟨gc, 0, none⟩), .slice A n c] w (ReadsB w gc t l) := by
  have Hr := Lib.hid hr
  have Hs := Lib.hid hs
  have Hf := Lib.hid hf
  clear hr hs hf
  go_enter Tryd.func20, Tryd.ntmps20
  go_wp2_with fail
  refine (hunmarshal_ok gc t c0 c1 c2 [.slice none 0 0] A n c (UInt8.ofNat 4) 0 (tlv 1 l) 0 w Hr.out Hs.out Hf.out (by rw [tlv_length]; omega) (by omega)).mono ?_
  rintro e w2 ⟨Ar, nr, cr, rfl, hR2, hS2, hF2, hG2⟩
  have hn := hS2.len
  rw [tlv_length] at hn
  have HS2 := Lib.hid hS2
  obtain ⟨A', c', hv, hnc, hcm, hl0, h0, hc⟩ := hS2
  injection hv with e1 e2 e3
  subst e1 e3
  obtain ⟨gr, or_, rfl, hg⟩ := hc (by rw [tlv_length]; omega)
  have j0 : w2.cell? ⟨gc, 0, none⟩ = some (.int .u8 4) := by rw [hR2.cell]; rfl
  have j2 : w2.cell? ⟨gc, 2, none⟩ = some (.slice (some ⟨gr, or_, none⟩) nr cr) := by rw [hR2.cell]; rfl
  have HR2 := Lib.hid hR2
  have HF2 := Lib.hid hF2
  have HG2 := Lib.hid hG2
  have q0 : ¬ (nr : Int) = 0 := by omega
  have q4 : ¬ (nr : Int) < 4 := by omega
  have Hn := Lib.hid hn
  have hnc : nr ≤ cr := by rw [tlv_length] at hnc; omega
  have hcr : cr ≤ 9223372036854775807 := by unfold maxLen at hcm; omega
  clear hR2 hF2 hG2 hcm hl0 h0 hc hg e2 hn
  go_wp2_with fail
  refine (ppt_any _ _ _ 1 (be 2 (4 + l.length) ++ l) w2 HS2.out (by omega)).mono ?_
  rintro e w3 ⟨rfl, hb3⟩
  have hR3 := HR2.out.below hb3 HR2.out.lt
  have HS3 := Lib.hid (HS2.out.below hb3)
  have hG3 := only_below HG2.out hb3
  have HG3 := Lib.hid hG3
  have j2 : (w3.alloc (.cells #[.int .u16 0, .int .u8 0, .int .i64 0, .slice none 0 0] 47)).cell? ⟨gc, 2, none⟩ = some (.slice (some ⟨gr, or_, none⟩) nr cr) := by rw [(hR3.alloc _).cell]; rfl
  have HR3 := Lib.hid hR3
  have hz3 : w.heap.size ≤ w3.heap.size := hG3.size
  clear hb3 hR3 hG3 j0
  go_wp2_with fail
  refine (phunmarshal w3.heap.size 47 _ _ _ _ [] _ nr cr 1 l [] _ (Row.new' _ _ _ rfl) (by rw [List.append_nil]; exact HS3.out.alloc _) (HS3.out.far (by rw [tlv_length]; omega) (Nat.le_refl _)) (by omega) (by omega)).mono ?_
  rintro e w4 ⟨Aq, nq, cq, act, rfl, hR4, _, _, hG4⟩
  have hRc4 := (HR3.out.alloc (.cells #[.int .u16 0, .int .u8 0, .int .i64 0, .slice none 0 0] 47)).grown hG4 (by intro e; injection e with e; have := HR3.out.lt; omega)
  have HS4 := Lib.hid ((HS3.out.alloc (.cells #[.int .u16 0, .int .u8 0, .int .i64 0, .slice none 0 0] 47)).only hG4 (HS3.out.far (by rw [tlv_length]; omega) (Nat.le_refl _)))
  have hG5 := only_new (only_alloc HG3.out (.cells #[.int .u16 0, .int .u8 0, .int .i64 0, .slice none 0 0] 47)) hG4 hz3
  have HG4 := Lib.hid hG5
  rw [← Hn.out] at hR4
  have p2 : w4.cell? ⟨w3.heap.size, 2, none⟩ = some (.int .i64 (nr : Int)) := by rw [hR4.cell]; rfl
  have j2 : w4.cell? ⟨gc, 2, none⟩ = some (.slice (some ⟨gr, or_, none⟩) nr cr) := by rw [hRc4.cell]; rfl
  have HR4 := Lib.hid hRc4
  have P2 := Lib.hid p2
  have hz4 : w.heap.size ≤ w4.heap.size := hG5.size
  have q5 : ¬ (nr : Int) > (nr : Int) := by omega
  have q6 : (nr : Int) ≤ (cr : Int) := by omega
  clear hR4 hRc4 hG4 hG5 p2
  go_wp2_with fail
  refine (phlength _ _ _ P2.out).mono ?_
  rintro e w4' ⟨rfl, rfl⟩
  go_wp2_with fail
  refine (buildParam_hb _ nr cr l [] _ (by rw [List.append_nil]; exact HS4.out) (by omega)).mono ?_
  rintro e w5 ⟨gi, ti, A5, n5, c5, y0, y1, y2, y3, rfl, hR5, hS5, hF5, hgi, hB5⟩
  have hRc5 := HR4.out.below hB5 HR4.out.lt
  have hG5 := only_below HG4.out hB5
  have hne : ¬ gi = gc := by have := HR4.out.lt; omega
  have HR5 := Lib.hid hRc5
  have HI5 := Lib.hid hR5
  have HS5 := Lib.hid hS5
  have HG5 := Lib.hid hG5
  have hz5 : w.heap.size ≤ w5.heap.size := hG5.size
  have j2 : (w5.alloc (.cells #[.iface 42 (.pointer (some ⟨gi, 0, none⟩))] 62)).cell? ⟨gc, 2, none⟩ = some (.slice (some ⟨gr, or_, none⟩) nr cr) := by rw [(hRc5.alloc _).cell]; rfl
  have j3 : (w5.alloc (.cells #[.iface 42 (.pointer (some ⟨gi, 0, none⟩))] 62)).cell? ⟨gc, 3, none⟩ = some (.slice none 0 0) := by rw [(hRc5.alloc _).cell]; rfl
  have f3 := (hRc5.alloc (.cells #[.iface 42 (.pointer (some ⟨gi, 0, none⟩))] 62)).frozen 3
  have i3 : w5.cell? ⟨gc, 3, none⟩ = some (.slice none 0 0) := by rw [hRc5.cell]; rfl
  have HF5 := Lib.hid (hF5 gc HF2.out)
  clear hR5 hS5 hF5 hRc5 hG5 hB5
  go_wp2_with (at_builtin; refine wpList_append_rd _ rfl _ _ rfl pT w5.heap.size (.slice none 0 0) 0 [] rfl (World.ownsRow_nil _ _ _ _) _ 1 [.iface 42 (.pointer (some ⟨gi, 0, none⟩))] rfl (Rd.lit w5 _ [_] 1 rfl (by omega)) (by simp [Value.oneCell']) (by unfold maxLen; omega) (by omega) (by simp) ?_)
  intro v6 w6 hown hg hat
  have hRd := Rd.of_own hown
  have hf6 : Far v6 gc := own_far hown HR5.out.lt
  obtain ⟨A6, c6, rfl⟩ := own_slice hown
  have hB6 := (Below.refl (w5.alloc (.cells #[.iface 42 (.pointer (some ⟨gi, 0, none⟩))] 62)).heap.size _).grown hg (Nat.le_refl _) (by simp [Value.ownBlock])
  have hR6 := (HR5.out.alloc (.cells #[.iface 42 (.pointer (some ⟨gi, 0, none⟩))] 62)).below hB6 (by have := HR5.out.lt; simp; omega)
  have HI6 := Lib.hid ((HI5.out.alloc (.cells #[.iface 42 (.pointer (some ⟨gi, 0, none⟩))] 62)).below hB6 (by have := HI5.out.lt; simp; omega))
  have HS6 := Lib.hid ((HS5.out.alloc (.cells #[.iface 42 (.pointer (some ⟨gi, 0, none⟩))] 62)).below hB6)
  have HG6 := Lib.hid (only_below (only_alloc HG5.out (.cells #[.iface 42 (.pointer (some ⟨gi, 0, none⟩))] 62)) hB6)
  have j2 : w6.cell? ⟨gc, 2, none⟩ = some (.slice (some ⟨gr, or_, none⟩) nr cr) := by rw [hR6.cell]; rfl
  have j3 : w6.cell? ⟨gc, 3, none⟩ = some (.slice none 0 0) := by rw [hR6.cell]; rfl
  have f3 := hR6.frozen 3
  have HR6 := Lib.hid hR6
  have HRd := Lib.hid hRd
  have HF6 := Lib.hid hf6
  clear hRd hf6 hR6 hB6 hown hg hat i3
  by_cases hcc : cr = nr
  all_goals
    go_wp2
    go_ret
    have hG7 : w6.grownBy (w6.setCell ⟨gc, 3, none⟩ (.slice A6 1 c6)) (some gc) := only_set (only_refl _ _) 3 _
    exact ⟨A5, n5, c5, _, _, gi, ti, _, _, _, _, _, _, _, rfl, HR6.out.set 3 _, HRd.out.only hG7 (fun A c e => HF6.out A _ c e), HI6.out.grown hG7 (by intro e; injection e with e; exact hne e), HS6.out.only hG7 HF5.out, only_trans HG6.out hG7⟩
end Go.Proofs.YthahoakeibfpcaaDoor
