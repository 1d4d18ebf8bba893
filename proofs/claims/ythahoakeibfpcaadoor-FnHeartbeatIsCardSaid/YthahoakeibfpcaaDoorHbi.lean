/- Contracts of the heartbeat information's parameter: marshal, unmarshal, and buildParam at its type. Conditions: the length fits 16 bits. -/
import Derived.Test.YthahoakeibfpcaaDoorPar
namespace Go.Proofs.YthahoakeibfpcaaDoor
open Go.RowKit Go.Lib

set_option maxRecDepth 20000 in
theorem hbmarshal (gc : Nat) (t : TypeId) (c0 c1 c2 c3 : Value) (A : Option Addr) (n c : Nat) (l : List UInt8) (w : World) (hr : Row w gc t [c0, c1, c2, c3, .slice A n c]) (hs : Sl w (.slice A n c) l) (hf : 0 < l.length → Far (.slice A n c) gc) (hl : l.length ≤ 65531) :
    Calls Tryd.prog 59 #[.pointer (some ⟨gc, 0, none⟩)] w (RetSlO w gc (tlv 1 l)) := by
  have k0 : w.cell? ⟨gc, 0, none⟩ = some c0 := by rw [hr.cell]; rfl
  have k3 : w.cell? ⟨gc, 3, none⟩ = some c3 := by rw [hr.cell]; rfl
  have k4 : w.cell? ⟨gc, 4, none⟩ = some (.slice A n c) := by rw [hr.cell]; rfl
  have f0 := hr.frozen 0
  have f3 := hr.frozen 3
  have Hr := Lib.hid hr
  have Hs := Lib.hid hs
  have Hf := Lib.hid hf
  clear hr hs hf
  go_enter Tryd.func59, Tryd.ntmps59
  go_wp2_with fail
  have hRW : Row ((w.setCell ⟨gc, 0, none⟩ (.int .u16 1)).setCell ⟨gc, 3, none⟩ (.slice A n c)) gc t [.int .u16 1, c1, c2, .slice A n c, .slice A n c] := (Hr.out.set 0 _).set 3 _
  have hGW : w.grownBy ((w.setCell ⟨gc, 0, none⟩ (.int .u16 1)).setCell ⟨gc, 3, none⟩ (.slice A n c)) (some gc) := only_set (only_set (only_refl _ _) 0 _) 3 _
  generalize (w.setCell ⟨gc, 0, none⟩ (.int .u16 1)).setCell ⟨gc, 3, none⟩ (.slice A n c) = W at hRW hGW ⊢
  refine (phmarshal gc t 1 c1 c2 A n c [.slice A n c] l W hRW (Hs.out.only' hGW Hf.out) hl (by omega) (by omega)).mono ?_
  rintro e w2 ⟨A2, n2, cc2, rfl, hS2, hb2⟩
  have HS2 := Lib.hid hS2
  have HG2 := Lib.hid (only_below hGW hb2)
  clear hS2 hb2 hRW hGW k0 k3 k4 f0 f3
  go_wp2
  go_ret2
  exact ⟨_, _, _, rfl, HS2.out, HG2.out⟩

/-- What the heartbeat parameter's unmarshal leaves. -/
def ReadsH (w : World) (gc : Nat) (t : TypeId) (v0 : Value) (l : List UInt8) (e : Ending) (w' : World) : Prop :=
  ∃ A n c c0 c1 c2 c3, e = .returned (.tuple #[.iface 42 (.pointer (some ⟨gc, 0, none⟩)), .nilIface]) ∧ Row w' gc t [c0, c1, c2, c3, .slice A n c] ∧ Sl w' (.slice A n c) l ∧ (∀ g, Far v0 g → Far (.slice A n c) g) ∧ w.grownBy w' (some gc)

set_option maxRecDepth 20000 in
theorem hbunmarshal (gc : Nat) (t : TypeId) (c0 c1 c2 c3 c4 : Value) (A : Option Addr) (n c : Nat) (ty : Nat) (l r : List UInt8) (w : World)
    (hr : Row w gc t [c0, c1, c2, c3, c4]) (hs : Sl w (.slice A n c) (tlv ty l ++ r)) (hf : Far (.slice A n c) gc) (hl : l.length ≤ 65531) (ht : ty < 65536) :
    Calls Tryd.prog 39 #[.pointer (some ⟨gc, 0, none⟩), .slice A n c] w (ReadsH w gc t (.slice A n c) l) := by
  have Hr := Lib.hid hr
  have Hs := Lib.hid hs
  have Hf := Lib.hid hf
  clear hr hs hf
  go_enter Tryd.func39, Tryd.ntmps39
  go_wp2_with fail
  refine (phunmarshal gc t c0 c1 c2 c3 [c4] A n c ty l r w Hr.out Hs.out Hf.out hl ht).mono ?_
  rintro e w2 ⟨A2, n2, cc2, act, rfl, hR2, hS2, hf2, hG2⟩
  have k3 : w2.cell? ⟨gc, 3, none⟩ = some (.slice A2 n2 cc2) := by rw [hR2.cell]; rfl
  have k4 : w2.cell? ⟨gc, 4, none⟩ = some c4 := by rw [hR2.cell]; rfl
  have f4 := hR2.frozen 4
  have HR2 := Lib.hid hR2
  have HS2 := Lib.hid hS2
  have HF2 := Lib.hid hf2
  have HG2 := Lib.hid hG2
  clear hR2 hS2 hf2 hG2
  go_wp2
  go_ret2
  exact ⟨A2, n2, cc2, _, _, _, _, rfl, HR2.out.set 4 _, HS2.out.only (only_set (only_refl _ _) 4 _) (HF2.out gc Hf.out), HF2.out, only_set HG2.out 4 _⟩

set_option maxRecDepth 20000 in
theorem buildParam_hb (A : Option Addr) (n c : Nat) (l r : List UInt8) (w : World) (hs : Sl w (.slice A n c) (tlv 1 l ++ r)) (hl : l.length ≤ 65531) :
    Calls Tryd.prog 28 #[.int .u16 1, .slice A n c] w fun e w' =>
      ∃ g t A2 n2 c2 c0 c1 c2' c3, e = .returned (.tuple #[.iface 42 (.pointer (some ⟨g, 0, none⟩)), .nilIface]) ∧ Row w' g t [c0, c1, c2', c3, .slice A2 n2 c2] ∧ Sl w' (.slice A2 n2 c2) l ∧ (∀ g, Far (.slice A n c) g → Far (.slice A2 n2 c2) g) ∧ w.heap.size ≤ g ∧ Below w.heap.size w w' := by
  have Hs := Lib.hid hs
  clear hs
  go_enter Tryd.func28, Tryd.ntmps28
  go_wp2_with fail
  have hR := Row.new' (g := w.heap.size) w 49 #[.int .u16 0, .int .u8 0, .int .i64 0, .slice none 0 0, .slice none 0 0] rfl
  have hB : Below w.heap.size w (w.alloc (.cells #[.int .u16 0, .int .u8 0, .int .i64 0, .slice none 0 0, .slice none 0 0] 49)) := (Below.refl _ _).alloc (Nat.le_refl _) _
  refine (hbunmarshal w.heap.size 49 _ _ _ _ _ A n c 1 l r _ hR (Hs.out.below hB) (Hs.out.far (by simp [tlv_length]; omega) (Nat.le_refl _)) hl (by omega)).mono ?_
  rintro e w2 ⟨A2, n2, cc2, c0, c1, c2, c3, rfl, hR2, hS2, hf2, hG2⟩
  have HR2 := Lib.hid hR2
  have HS2 := Lib.hid hS2
  have HF2 := Lib.hid hf2
  have HB2 := Lib.hid (below_only hB (by simp) hG2 (Nat.le_refl _))
  clear hR hB hR2 hS2 hf2 hG2
  go_wp2
  go_ret2
  exact ⟨w.heap.size, _, _, _, _, _, _, _, _, rfl, HR2.out, HS2.out, HF2.out, Nat.le_refl _, HB2.out⟩
end Go.Proofs.YthahoakeibfpcaaDoor
