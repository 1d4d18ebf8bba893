/- Contracts of the marshals of INIT and INIT ACK. Conditions: the numbers fit, the length fits 16 bits. -/
import Derived.Test.YtokkhfjlbnochaaDoorIng
namespace Go.Proofs.YtokkhfjlbnochaaDoor
open Go.RowKit Go.Lib

theorem only_below_B {B g : Nat} {a b c : World} (h : a.grownBy b (some g)) (hg : B ≤ g) (hB : B ≤ a.heap.size) (hb : Below b.heap.size b c) : Below B a c :=
  below_step ⟨h.os, h.tape, h.output, h.size, fun i hi => h.block i (by omega) (by intro e; injection e with e; omega)⟩ (Nat.le_trans hB h.size) hb

set_option maxRecDepth 20000 in
theorem inmarshal (B gc : Nat) (t : TypeId) (tag win out inn tsn : Nat) (un : Value) (Al : Option Addr) (nl cl : Nat) (cs : List Kp) (w : World)
    (hr : Row w gc t [.int .u8 0, .int .u8 0, .slice none 0 0, .int .u32 tag, .int .u32 win, .int .u16 out, .int .u16 inn, .int .u32 tsn, .slice Al nl cl, un]) (hL : Rd w 1 nl (.slice Al nl cl) (cs.map Kp.v)) (hn : nl = cs.length) (ha : KAll cs w) (hsd : KSide cs gc w.heap.size) (hBc : ∀ c ∈ cs, B ≤ c.g) (hBw : B ≤ gc)
    (hv1 : tag ≤ 4294967295) (hv2 : win ≤ 4294967295) (hv3 : out ≤ 65535) (hv4 : inn ≤ 65535) (hv5 : tsn ≤ 4294967295) (hlen : (kflat (ds cs)).length ≤ 60000) (hnl : nl ≤ 1000) :
    Calls Tryd.prog 24 #[.pointer (some ⟨gc, 0, none⟩)] w (RetSlM B w (chunk 1 0 (ihead tag win out inn tsn ++ kflat (ds cs)))) := by
  have hgc := hr.lt
  have Hr := Lib.hid hr
  have HL := Lib.hid hL
  have Hn := Lib.hid hn
  have Ha := Lib.hid ha
  have Hsd := Lib.hid hsd
  have HBc := Lib.hid hBc
  have Hlen := Lib.hid hlen
  clear hr hL hn ha hsd hBc hlen
  go_enter Tryd.func24, Tryd.ntmps24
  go_wp2_with fail
  refine (icmarshal B gc t _ _ _ tag win out inn tsn [un] Al nl cl cs w Hr.out HL.out Hn.out Ha.out Hsd.out HBc.out (by omega) hv1 hv2 hv3 hv4 hv5 Hlen.out hnl).mono ?_
  rintro e w2 ⟨A2, n2, c2, rfl, hS2, hB2, hR2, hz2, hN2⟩
  have k0 : w2.cell? ⟨gc, 0, none⟩ = some (.int .u8 0) := by rw [hR2.cell]; rfl
  have k2 : w2.cell? ⟨gc, 2, none⟩ = some (.slice none 0 0) := by rw [hR2.cell]; rfl
  have f0 := hR2.frozen 0
  have f2 := hR2.frozen 2
  have HS2 := Lib.hid hS2
  have HB2 := Lib.hid hB2
  have HR2 := Lib.hid hR2
  have HN2 := Lib.hid (hN2 gc hgc)
  clear hS2 hB2 hR2 hN2
  go_wp2_with fail
  have hW : Row ((w2.setCell ⟨gc, 0, none⟩ (.int .u8 1)).setCell ⟨gc, 2, none⟩ (.slice A2 n2 c2)) gc t [.int .u8 1, .int .u8 0, .slice A2 n2 c2, .int .u32 tag, .int .u32 win, .int .u16 out, .int .u16 inn, .int .u32 tsn, .slice Al nl cl, un] := (HR2.out.set 0 _).set 2 _
  have hg : w2.grownBy ((w2.setCell ⟨gc, 0, none⟩ (.int .u8 1)).setCell ⟨gc, 2, none⟩ (.slice A2 n2 c2)) (some gc) := only_set (only_set (only_refl _ _) 0 _) 2 _
  generalize (w2.setCell ⟨gc, 0, none⟩ (.int .u8 1)).setCell ⟨gc, 2, none⟩ (.slice A2 n2 c2) = W at hW hg ⊢
  refine (hmarshal_any gc t 1 0 _ _ _ _ hW (HS2.out.only hg HN2.out) (by rw [List.length_append, ihead_length]; have := Hlen.out; omega)).mono ?_
  rintro e w3 ⟨A3, n3, c3, rfl, hs3, hb3⟩
  have Hs3 := Lib.hid hs3
  have Hg3 := Lib.hid (HB2.out.trans (only_below_B hg hBw (Nat.le_trans (Nat.le_trans hBw (Nat.le_of_lt hgc)) hz2) hb3))
  clear hs3 hb3 hW hg
  go_wp2
  go_ret2
  exact ⟨A3, n3, c3, rfl, by rw [chunk_rev]; exact Hs3.out, Hg3.out⟩

set_option maxRecDepth 20000 in
theorem iamarshal (B gc : Nat) (t : TypeId) (tag win out inn tsn : Nat) (un : Value) (Al : Option Addr) (nl cl : Nat) (cs : List Kp) (w : World)
    (hr : Row w gc t [.int .u8 0, .int .u8 0, .slice none 0 0, .int .u32 tag, .int .u32 win, .int .u16 out, .int .u16 inn, .int .u32 tsn, .slice Al nl cl, un]) (hL : Rd w 1 nl (.slice Al nl cl) (cs.map Kp.v)) (hn : nl = cs.length) (ha : KAll cs w) (hsd : KSide cs gc w.heap.size) (hBc : ∀ c ∈ cs, B ≤ c.g) (hBw : B ≤ gc)
    (hv1 : tag ≤ 4294967295) (hv2 : win ≤ 4294967295) (hv3 : out ≤ 65535) (hv4 : inn ≤ 65535) (hv5 : tsn ≤ 4294967295) (hlen : (kflat (ds cs)).length ≤ 60000) (hnl : nl ≤ 1000) :
    Calls Tryd.prog 23 #[.pointer (some ⟨gc, 0, none⟩)] w (RetSlM B w (chunk 2 0 (ihead tag win out inn tsn ++ kflat (ds cs)))) := by
  have hgc := hr.lt
  have Hr := Lib.hid hr
  have HL := Lib.hid hL
  have Hn := Lib.hid hn
  have Ha := Lib.hid ha
  have Hsd := Lib.hid hsd
  have HBc := Lib.hid hBc
  have Hlen := Lib.hid hlen
  clear hr hL hn ha hsd hBc hlen
  go_enter Tryd.func23, Tryd.ntmps23
  go_wp2_with fail
  refine (icmarshal B gc t _ _ _ tag win out inn tsn [un] Al nl cl cs w Hr.out HL.out Hn.out Ha.out Hsd.out HBc.out (by omega) hv1 hv2 hv3 hv4 hv5 Hlen.out hnl).mono ?_
  rintro e w2 ⟨A2, n2, c2, rfl, hS2, hB2, hR2, hz2, hN2⟩
  have k0 : w2.cell? ⟨gc, 0, none⟩ = some (.int .u8 0) := by rw [hR2.cell]; rfl
  have k2 : w2.cell? ⟨gc, 2, none⟩ = some (.slice none 0 0) := by rw [hR2.cell]; rfl
  have f0 := hR2.frozen 0
  have f2 := hR2.frozen 2
  have HS2 := Lib.hid hS2
  have HB2 := Lib.hid hB2
  have HR2 := Lib.hid hR2
  have HN2 := Lib.hid (hN2 gc hgc)
  clear hS2 hB2 hR2 hN2
  go_wp2_with fail
  have hW : Row ((w2.setCell ⟨gc, 0, none⟩ (.int .u8 2)).setCell ⟨gc, 2, none⟩ (.slice A2 n2 c2)) gc t [.int .u8 2, .int .u8 0, .slice A2 n2 c2, .int .u32 tag, .int .u32 win, .int .u16 out, .int .u16 inn, .int .u32 tsn, .slice Al nl cl, un] := (HR2.out.set 0 _).set 2 _
  have hg : w2.grownBy ((w2.setCell ⟨gc, 0, none⟩ (.int .u8 2)).setCell ⟨gc, 2, none⟩ (.slice A2 n2 c2)) (some gc) := only_set (only_set (only_refl _ _) 0 _) 2 _
  generalize (w2.setCell ⟨gc, 0, none⟩ (.int .u8 2)).setCell ⟨gc, 2, none⟩ (.slice A2 n2 c2) = W at hW hg ⊢
  refine (hmarshal_any gc t 2 0 _ _ _ _ hW (HS2.out.only hg HN2.out) (by rw [List.length_append, ihead_length]; have := Hlen.out; omega)).mono ?_
  rintro e w3 ⟨A3, n3, c3, rfl, hs3, hb3⟩
  have Hs3 := Lib.hid hs3
  have Hg3 := Lib.hid (HB2.out.trans (only_below_B hg hBw (Nat.le_trans (Nat.le_trans hBw (Nat.le_of_lt hgc)) hz2) hb3))
  clear hs3 hb3 hW hg
  go_wp2
  go_ret2
  exact ⟨A3, n3, c3, rfl, by rw [chunk_rev]; exact Hs3.out, Hg3.out⟩

end Go.Proofs.YtokkhfjlbnochaaDoor
