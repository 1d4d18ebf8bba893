/- Contracts of HEARTBEAT's and HEARTBEAT ACK's marshal, with one parameter. Conditions: the length fits 16 bits. -/
import Derived.Test.YthahoakeibfpcaaDoorHbi
namespace Go.Proofs.YthahoakeibfpcaaDoor
open Go.RowKit Go.Lib

/-- A slice is returned with no error, holding these bytes; nothing below B has changed. -/
def RetSlM (B : Nat) (w : World) (l : List UInt8) (e : Ending) (w' : World) : Prop := ∃ A n c, e = .returned (.tuple #[.slice A n c, .nilIface]) ∧ Sl w' (.slice A n c) l ∧ Below B w w'

theorem Sl.apart4 {w : World} {v : Value} {l : List UInt8} {g : Nat} {t : TypeId} {x0 x1 x2 : Value} {B : Option Addr} {m d : Nat} (h : Sl w v l) (hr : Row w g t [x0, x1, x2, .slice B m d]) (hp : 4 ≤ l.length) : Far v g := by
  intro A n c hv
  obtain ⟨A', c', hv', hnc, hcm, hl0, h0, hc⟩ := h
  rw [hv] at hv'
  injection hv' with e1 e2 e3
  subst e1
  obtain ⟨g', o, hA, hg⟩ := hc (by omega)
  injection hA with hA
  subst hA
  intro e
  simp only at e
  subst e
  have h1 := hg 3 _ (bvs_get l 3 (by omega))
  rw [hr.cell] at h1
  match o, h1 with
  | 0, h1 => simp [bv] at h1
  | o + 1, h1 => rw [List.getElem?_eq_none (by simp)] at h1; cases h1

set_option maxRecDepth 20000 in
theorem hbMarshal (B gc gp gi : Nat) (t tp ti : TypeId) (x0 x1 rv : Value) (A : Option Addr) (n c : Nat) (c0 c1 c2 c3 : Value) (l : List UInt8) (w : World)
    (hr : Row w gc t [x0, x1, rv, .slice (some ⟨gp, 0, none⟩) 1 1]) (hp : Row w gp tp [.iface 42 (.pointer (some ⟨gi, 0, none⟩))]) (hi : Row w gi ti [c0, c1, c2, c3, .slice A n c])
    (hs : Sl w (.slice A n c) l) (hf : 0 < l.length → Far (.slice A n c) gi) (_hcp : gc ≠ gp) (hci : gc ≠ gi) (hB : B ≤ gc) (hBi : B ≤ gi) (hBw : B ≤ w.heap.size) (hl : l.length ≤ 65527) :
    Calls Tryd.prog 18 #[.pointer (some ⟨gc, 0, none⟩)] w (RetSlM B w (chunk 4 0 (tlv 1 l))) := by
  have k3 : w.cell? ⟨gc, 3, none⟩ = some (.slice (some ⟨gp, 0, none⟩) 1 1) := by rw [hr.cell]; rfl
  have p0 : w.cell? ⟨gp, 0, none⟩ = some (.iface 42 (.pointer (some ⟨gi, 0, none⟩))) := by rw [hp.cell]; rfl
  have Hr := Lib.hid hr
  have Hi := Lib.hid hi
  have Hs := Lib.hid hs
  have Hf := Lib.hid hf
  clear hr hp hi hs hf
  go_enter Tryd.func18, Tryd.ntmps18
  have ta : ∀ (v : Value) (w : World), (Instr.typeAssert (.iface 42 v) 62 42 true).run Tryd.prog w = .ok (.tuple #[v, .bool true]) w := fun _ _ => by kernel_rfl
  have hm : ∀ (a : Addr) (w : World), (method 236 42 (.pointer (some a)) "loop.example/pub-g03037/pub/sctp.marshal").run Tryd.prog w = .ok (59, .pointer (some a)) w := fun _ _ => by kernel_rfl
  go_wp2_with fail
  refine (hbmarshal gi ti c0 c1 c2 c3 A n c l w Hi.out Hs.out Hf.out (by omega)).mono ?_
  rintro e w2 ⟨A2, n2, cc2, rfl, hS2, hG2⟩
  have hR2 := Hr.out.grown hG2 (by intro e; injection e with e; exact hci e)
  have HB2 := Lib.hid (below_only (Below.refl B w) hBw hG2 hBi)
  have k0 : w2.cell? ⟨gc, 0, none⟩ = some x0 := by rw [hR2.cell]; rfl
  have k1 : w2.cell? ⟨gc, 1, none⟩ = some x1 := by rw [hR2.cell]; rfl
  have f0 := hR2.frozen 0
  have f1 := hR2.frozen 1
  have HR2 := Lib.hid hR2
  have HS2 := Lib.hid hS2
  have Hn2 := Lib.hid hS2.len
  have hRW : Row ((w2.setCell ⟨gc, 0, none⟩ (.int .u8 4)).setCell ⟨gc, 1, none⟩ (.int .u8 0)) gc t [.int .u8 4, .int .u8 0, rv, .slice (some ⟨gp, 0, none⟩) 1 1] := (hR2.set 0 _).set 1 _
  have hGW : w2.grownBy ((w2.setCell ⟨gc, 0, none⟩ (.int .u8 4)).setCell ⟨gc, 1, none⟩ (.int .u8 0)) (some gc) := only_set (only_set (only_refl _ _) 0 _) 1 _
  have hSW : Sl ((w2.setCell ⟨gc, 0, none⟩ (.int .u8 4)).setCell ⟨gc, 1, none⟩ (.int .u8 0)) (.slice A2 n2 cc2) (tlv 1 l) := hS2.only hGW (hS2.apart4 hR2 (by rw [tlv_length]; omega))
  have HRW := Lib.hid hRW
  have HSW := Lib.hid hSW
  have HBW := Lib.hid (below_only HB2.out (Nat.le_trans hBw hG2.size) hGW hB)
  clear hS2 hG2 hR2 k3 p0 hRW hGW hSW
  go_wp2_with (at_builtin; refine wpList_append_rd _ rfl _ _ rfl bT w2.heap.size (.slice none 0 0) 0 [] rfl (World.ownsRow_nil _ _ _ _) _ _ _ rfl HSW.out (bvs_one _) (by have := tlv_length 1 l; unfold maxLen; omega) (by have := tlv_length 1 l; omega) (by simp [World.setCell]) ?_)
  intro v1 w1 hown hg hat
  have hS1 : Sl w1 v1 (tlv 1 l) := Sl.of_own hown
  rw [← Hn2.out] at hown
  obtain ⟨A1, cc1, rfl⟩ := own_slice hown
  have hB1 := (Below.refl ((w2.setCell ⟨gc, 0, none⟩ (.int .u8 4)).setCell ⟨gc, 1, none⟩ (.int .u8 0)).heap.size _).grown hg (Nat.le_refl _) (by simp [Value.ownBlock])
  have hR1 := HRW.out.below hB1 HRW.out.lt
  have hf1 : Far (.slice A1 n2 cc1) gc := own_far hown HR2.out.lt
  have k2 : w1.cell? ⟨gc, 2, none⟩ = some rv := by rw [hR1.cell]; rfl
  have f2 := hR1.frozen 2
  have HB1 := Lib.hid (below_step HBW.out (Nat.le_trans (Nat.le_trans hBw HB2.out.size) (by simp [World.setCell])) hB1)
  have HR1 := Lib.hid hR1
  have HS1 := Lib.hid hS1
  have HF1 := Lib.hid hf1
  clear hown hg hat hB1 hR1 hS1 hf1 k0 k1 f0 f1
  go_wp2_with fail
  have hR3 : Row (w1.setCell ⟨gc, 2, none⟩ (.slice A1 n2 cc1)) gc t [bv 4, bv 0, .slice A1 n2 cc1, .slice (some ⟨gp, 0, none⟩) 1 1] := HR1.out.set 2 _
  have hG3 : w1.grownBy (w1.setCell ⟨gc, 2, none⟩ (.slice A1 n2 cc1)) (some gc) := only_set (only_refl _ _) 2 _
  refine (hmarshal_any gc t 4 0 (.slice A1 n2 cc1) [.slice (some ⟨gp, 0, none⟩) 1 1] (tlv 1 l) _ hR3 (HS1.out.only hG3 HF1.out) (by rw [tlv_length]; omega)).mono ?_
  rintro e w4 ⟨A4, n4, c4, rfl, hS4, hb4⟩
  have hB3 := below_only HB1.out (Nat.le_trans hBw HB1.out.size) hG3 hB
  have HB4 := Lib.hid (below_step hB3 (Nat.le_trans hBw hB3.size) hb4)
  have HS4 := Lib.hid hS4
  clear hS4 hb4 hB3 hR3 hG3 k2 f2
  go_wp2
  go_ret2
  exact ⟨_, _, _, rfl, by rw [chunk_rev]; exact HS4.out, HB4.out⟩

set_option maxRecDepth 20000 in
theorem hbackMarshal (B gc gp gi : Nat) (t tp ti : TypeId) (x0 rv : Value) (A : Option Addr) (n c : Nat) (c0 c1 c2 c3 : Value) (l : List UInt8) (w : World)
    (hr : Row w gc t [x0, .int .u8 0, rv, .slice (some ⟨gp, 0, none⟩) 1 1]) (hp : Row w gp tp [.iface 42 (.pointer (some ⟨gi, 0, none⟩))]) (hi : Row w gi ti [c0, c1, c2, c3, .slice A n c])
    (hs : Sl w (.slice A n c) l) (hf : 0 < l.length → Far (.slice A n c) gi) (_hcp : gc ≠ gp) (hci : gc ≠ gi) (_hip : gi ≠ gp) (hB : B ≤ gc) (hBi : B ≤ gi) (hBw : B ≤ w.heap.size) (hl : l.length ≤ 65527) :
    Calls Tryd.prog 17 #[.pointer (some ⟨gc, 0, none⟩)] w (RetSlM B w (chunk 5 0 (tlv 1 l))) := by
  have k3 : w.cell? ⟨gc, 3, none⟩ = some (.slice (some ⟨gp, 0, none⟩) 1 1) := by rw [hr.cell]; rfl
  have p0 : w.cell? ⟨gp, 0, none⟩ = some (.iface 42 (.pointer (some ⟨gi, 0, none⟩))) := by rw [hp.cell]; rfl
  have Hr := Lib.hid hr
  have Hp := Lib.hid hp
  have Hi := Lib.hid hi
  have Hs := Lib.hid hs
  have Hf := Lib.hid hf
  clear hr hp hi hs hf
  go_enter Tryd.func17, Tryd.ntmps17
  have ta : ∀ (v : Value) (w : World), (Instr.typeAssert (.iface 42 v) 62 42 true).run Tryd.prog w = .ok (.tuple #[v, .bool true]) w := fun _ _ => by kernel_rfl
  have hm : ∀ (a : Addr) (w : World), (method 236 42 (.pointer (some a)) "loop.example/pub-g03037/pub/sctp.marshal").run Tryd.prog w = .ok (59, .pointer (some a)) w := fun _ _ => by kernel_rfl
  go_wp2_with (at_make; refine wpList_make_row _ rfl _ _ _ rfl bT rfl _ _ _ _ 0 rfl rfl ?d1 ?d2 ?c1 ?c2 ?_)
  case d1 => first | rfl | omega
  case d2 => first | rfl | omega
  case c1 => omega
  case c2 => unfold maxLen; omega
  intro w1 hrow hb1
  have hown := hrow.own (size := 1) (n := 0) (base := w.heap.size) (Nat.le_refl _) (by simp) (by unfold maxLen; omega)
  have hR1 := Hr.out.below hb1 Hr.out.lt
  have hP1 := Hp.out.below hb1 Hp.out.lt
  have k3 : w1.cell? ⟨gc, 3, none⟩ = some (.slice (some ⟨gp, 0, none⟩) 1 1) := by rw [hR1.cell]; rfl
  have p0 : w1.cell? ⟨gp, 0, none⟩ = some (.iface 42 (.pointer (some ⟨gi, 0, none⟩))) := by rw [hP1.cell]; rfl
  have HR1 := Lib.hid hR1
  have HP1 := Lib.hid hP1
  have HI1 := Lib.hid (Hi.out.below hb1 Hi.out.lt)
  have HS1 := Lib.hid (Hs.out.below hb1)
  have HB1 := Lib.hid hb1
  have HO1 := Lib.hid hown
  clear hrow hown hR1 hP1 hb1
  go_wp2_with fail
  go_loopw [4, 32] (fun v i wr => (i = .int .i64 0 ∧ v = .slice (some ⟨w.heap.size, 0, none⟩) 0 0 ∧ wr = w1) ∨ (i = .int .i64 1 ∧ ∃ A c, v = .slice A (4 + l.length) c ∧ Sl wr v (tlv 1 l) ∧ Far v gc ∧ Row wr gc t [x0, .int .u8 0, rv, .slice (some ⟨gp, 0, none⟩) 1 1] ∧ Below B w wr)) (fun _ i _ => 1 - (intOf i).toNat)
  case atStart => exact .inl ⟨rfl, rfl, rfl⟩
  case round =>
    rcases hrel with ⟨rfl, rfl, rfl⟩ | ⟨rfl, A5, c5, rfl, hS5, hf5, hR5, hB5⟩
    · go_wp2_with fail
      refine (hbmarshal gi ti c0 c1 c2 c3 A n c l wr HI1.out HS1.out Hf.out (by omega)).mono ?_
      rintro e w2 ⟨A2, n2, cc2, rfl, hS2, hG2⟩
      have Hn2 := Lib.hid hS2.len
      have hR2 := HR1.out.grown hG2 (by intro e; injection e with e; exact hci e)
      have HB2 := Lib.hid (below_only (HB1.out.mono hBw) (Nat.le_trans hBw HB1.out.size) hG2 hBi)
      have HO2 := Lib.hid (HO1.out.kept hG2 (.inr (own_apart HO1.out Hi.out.lt)))
      have k3 : w2.cell? ⟨gc, 3, none⟩ = some (.slice (some ⟨gp, 0, none⟩) 1 1) := by rw [hR2.cell]; rfl
      have HR2 := Lib.hid hR2
      have HS2 := Lib.hid hS2
      have hsz := Nat.le_trans HB1.out.size hG2.size
      clear hS2 hG2 hR2
      go_wp2_with (at_builtin; refine wpList_append_rd _ rfl _ _ rfl bT w.heap.size _ _ _ rfl HO2.out _ _ _ rfl HS2.out (bvs_one _) (by have := tlv_length 1 l; unfold maxLen; omega) (by have := tlv_length 1 l; omega) hsz ?_)
      intro v3 w3 hown hg hat
      have hS3 : Sl w3 v3 (tlv 1 l) := Sl.of_own hown
      have hf3 : Far v3 gc := own_far hown Hr.out.lt
      obtain ⟨A3, cc3, rfl⟩ := own_slice hown
      have hB3 := HB2.out.grown hg (Nat.le_trans hBw hsz) (fun j hj => Nat.le_trans hBw (HO2.out.lt j hj).1)
      have hR3 := HR2.out.grown hg (by intro e; have := (HO2.out.lt gc e.symm).1; have := Hr.out.lt; omega)
      have k3 : w3.cell? ⟨gc, 3, none⟩ = some (.slice (some ⟨gp, 0, none⟩) 1 1) := by rw [hR3.cell]; rfl
      have HS3 := Lib.hid hS3
      have HF3 := Lib.hid hf3
      have HB3 := Lib.hid hB3
      have HR3 := Lib.hid hR3
      clear hS3 hf3 hB3 hR3 hown hg hat
      go_wp2_with fail
      go_roundw
      case rel => exact .inr ⟨rfl, A3, cc3, by rw [tlv_length], HS3.out, HF3.out, HR3.out, HB3.out⟩
      case measure => simp [intOf]
    · have k0 : wr.cell? ⟨gc, 0, none⟩ = some x0 := by rw [hR5.cell]; rfl
      have k2 : wr.cell? ⟨gc, 2, none⟩ = some rv := by rw [hR5.cell]; rfl
      have f0 := hR5.frozen 0
      have f2 := hR5.frozen 2
      have HR5 := Lib.hid hR5
      have HS5 := Lib.hid hS5
      have HF5 := Lib.hid hf5
      have HB5 := Lib.hid hB5
      clear hR5 hS5 hf5 hB5
      go_wp2_with fail
      have hR6 : Row ((wr.setCell ⟨gc, 0, none⟩ (.int .u8 5)).setCell ⟨gc, 2, none⟩ (.slice A5 (4 + l.length) c5)) gc t [bv 5, bv 0, .slice A5 (4 + l.length) c5, .slice (some ⟨gp, 0, none⟩) 1 1] := (HR5.out.set 0 _).set 2 _
      have hG6 : wr.grownBy ((wr.setCell ⟨gc, 0, none⟩ (.int .u8 5)).setCell ⟨gc, 2, none⟩ (.slice A5 (4 + l.length) c5)) (some gc) := only_set (only_set (only_refl _ _) 0 _) 2 _
      refine (hmarshal_any gc t 5 0 (.slice A5 (4 + l.length) c5) [.slice (some ⟨gp, 0, none⟩) 1 1] (tlv 1 l) _ hR6 (HS5.out.only hG6 HF5.out) (by rw [tlv_length]; omega)).mono ?_
      rintro e w7 ⟨A7, n7, c7, rfl, hS7, hb7⟩
      have hB6 := below_only HB5.out (Nat.le_trans hBw HB5.out.size) hG6 hB
      have HB7 := Lib.hid (below_step hB6 (Nat.le_trans hBw hB6.size) hb7)
      have HS7 := Lib.hid hS7
      clear hS7 hb7 hB6 hR6 hG6 k0 k2 f0 f2
      go_wp2
      go_ret2
      exact ⟨_, _, _, rfl, by rw [chunk_rev]; exact HS7.out, HB7.out⟩
end Go.Proofs.YthahoakeibfpcaaDoor
