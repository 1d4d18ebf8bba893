/- Contracts of the two kinds of causes: marshal, unmarshal. Conditions: the length fits 16 bits. -/
import Derived.Test.YtjbegflgbkgjpaaDoorEch
namespace Go.Proofs.YtjbegflgbkgjpaaDoor
open Go.RowKit Go.Lib

/-- What a kind's unmarshal leaves. -/
def ReadsU (w : World) (gc : Nat) (t : TypeId) (ty : Nat) (v0 : Value) (l : List UInt8) (e : Ending) (w' : World) : Prop :=
  ∃ A n c, e = .returned .nilIface ∧ Row w' gc t [.int .u16 (ty : Int), .int .u16 ((4 + l.length : Nat) : Int), .slice A n c, .slice A n c] ∧ Sl w' (.slice A n c) l ∧ (∀ g, Far v0 g → Far (.slice A n c) g) ∧ w.grownBy w' (some gc)

set_option maxRecDepth 20000 in
theorem uamarshal (gc : Nat) (t : TypeId) (c1 c2 : Value) (A : Option Addr) (n c : Nat) (l : List UInt8) (w : World) (hr : Row w gc t [.int .u16 12, c1, c2, .slice A n c]) (hs : Sl w (.slice A n c) l) (hf : 0 < l.length → Far (.slice A n c) gc) (hl : l.length ≤ 65531) :
    Calls Tryd.prog 49 #[.pointer (some ⟨gc, 0, none⟩)] w (RetCm w gc t 12 (.slice A n c) [.slice A n c] l) := by
  have k0 : w.cell? ⟨gc, 0, none⟩ = some (.int .u16 12) := by rw [hr.cell]; rfl
  have k2 : w.cell? ⟨gc, 2, none⟩ = some c2 := by rw [hr.cell]; rfl
  have k3 : w.cell? ⟨gc, 3, none⟩ = some (.slice A n c) := by rw [hr.cell]; rfl
  have f0 := hr.frozen 0
  have f2 := hr.frozen 2
  have Hr := Lib.hid hr
  have Hs := Lib.hid hs
  have Hf := Lib.hid hf
  clear hr hs hf
  go_enter Tryd.func49, Tryd.ntmps49
  go_wp2_with fail
  have hRW : Row ((w.setCell ⟨gc, 0, none⟩ (.int .u16 12)).setCell ⟨gc, 2, none⟩ (.slice A n c)) gc t [.int .u16 ((12 : Nat) : Int), c1, .slice A n c, .slice A n c] := (Hr.out.set 0 _).set 2 _
  have hGW : w.grownBy ((w.setCell ⟨gc, 0, none⟩ (.int .u16 12)).setCell ⟨gc, 2, none⟩ (.slice A n c)) (some gc) := only_set (only_set (only_refl _ _) 0 _) 2 _
  have hSW := Hs.out.only' hGW Hf.out
  generalize ((w.setCell ⟨gc, 0, none⟩ (.int .u16 12)).setCell ⟨gc, 2, none⟩ (.slice A n c)) = W at hRW hGW hSW ⊢
  refine (echmarshal gc t 12 c1 A n c [.slice A n c] l W hRW hSW Hf.out hl (by omega)).mono ?_
  rintro e w2 ⟨A2, n2, cc2, rfl, hS2, hR2, hG2, hN2⟩
  have HN2 : Hid (∀ g, g < w.heap.size → Far (.slice A2 n2 cc2) g) := Lib.hid (fun g hg => hN2 g (Nat.lt_of_lt_of_le hg hGW.size))
  have HS2 := Lib.hid hS2
  have HR2 := Lib.hid hR2
  have HG2 := Lib.hid (only_trans hGW hG2)
  clear hS2 hR2 hG2 hN2 hRW hGW hSW k0 k2 k3 f0 f2
  go_wp2
  go_ret2
  exact ⟨_, _, _, rfl, HS2.out, HR2.out, HG2.out, HN2.out⟩

set_option maxRecDepth 20000 in
theorem uaunmarshal (gc : Nat) (t : TypeId) (c0 c1 : Int) (c2 c3 : Value) (A : Option Addr) (n c : Nat) (ty : Nat) (l r : List UInt8) (w : World) (hr : Row w gc t [.int .u16 c0, .int .u16 c1, c2, c3]) (hs : Sl w (.slice A n c) (tlv ty l ++ r))
    (hf : Far (.slice A n c) gc) (hl : l.length ≤ 65531) (ht : ty < 65536) :
    Calls Tryd.prog 50 #[.pointer (some ⟨gc, 0, none⟩), .slice A n c] w (ReadsU w gc t ty (.slice A n c) l) := by
  have Hr := Lib.hid hr
  have Hs := Lib.hid hs
  have Hf := Lib.hid hf
  clear hr hs hf
  go_enter Tryd.func50, Tryd.ntmps50
  go_wp2_with fail
  refine (echunmarshal gc t c0 c1 c2 [c3] A n c ty l r w Hr.out Hs.out Hf.out hl ht).mono ?_
  rintro e w2 ⟨A2, n2, cc2, rfl, hR2, hS2, hf2, hG2⟩
  have k2 : w2.cell? ⟨gc, 2, none⟩ = some (.slice A2 n2 cc2) := by rw [hR2.cell]; rfl
  have k3 : w2.cell? ⟨gc, 3, none⟩ = some c3 := by rw [hR2.cell]; rfl
  have f3 := hR2.frozen 3
  have HR2 := Lib.hid hR2
  have HS2 := Lib.hid hS2
  have HF2 := Lib.hid hf2
  have HG2 := Lib.hid hG2
  clear hR2 hS2 hf2 hG2
  go_wp2
  go_ret
  exact ⟨A2, n2, cc2, rfl, HR2.out.set 3 _, HS2.out.only (only_set (only_refl _ _) 3 _) (HF2.out gc Hf.out), HF2.out, only_set HG2.out 3 _⟩

set_option maxRecDepth 20000 in
theorem pvmarshal (gc : Nat) (t : TypeId) (c1 c2 : Value) (A : Option Addr) (n c : Nat) (l : List UInt8) (w : World) (hr : Row w gc t [.int .u16 13, c1, c2, .slice A n c]) (hs : Sl w (.slice A n c) l) (hf : 0 < l.length → Far (.slice A n c) gc) (hl : l.length ≤ 65531) :
    Calls Tryd.prog 47 #[.pointer (some ⟨gc, 0, none⟩)] w (RetCm w gc t 13 (.slice A n c) [.slice A n c] l) := by
  have k0 : w.cell? ⟨gc, 0, none⟩ = some (.int .u16 13) := by rw [hr.cell]; rfl
  have k2 : w.cell? ⟨gc, 2, none⟩ = some c2 := by rw [hr.cell]; rfl
  have k3 : w.cell? ⟨gc, 3, none⟩ = some (.slice A n c) := by rw [hr.cell]; rfl
  have f0 := hr.frozen 0
  have f2 := hr.frozen 2
  have Hr := Lib.hid hr
  have Hs := Lib.hid hs
  have Hf := Lib.hid hf
  clear hr hs hf
  go_enter Tryd.func47, Tryd.ntmps47
  go_wp2_with fail
  have hRW : Row (w.setCell ⟨gc, 2, none⟩ (.slice A n c)) gc t [.int .u16 ((13 : Nat) : Int), c1, .slice A n c, .slice A n c] := Hr.out.set 2 _
  have hGW : w.grownBy (w.setCell ⟨gc, 2, none⟩ (.slice A n c)) (some gc) := only_set (only_refl _ _) 2 _
  have hSW := Hs.out.only' hGW Hf.out
  generalize (w.setCell ⟨gc, 2, none⟩ (.slice A n c)) = W at hRW hGW hSW ⊢
  refine (echmarshal gc t 13 c1 A n c [.slice A n c] l W hRW hSW Hf.out hl (by omega)).mono ?_
  rintro e w2 ⟨A2, n2, cc2, rfl, hS2, hR2, hG2, hN2⟩
  have HN2 : Hid (∀ g, g < w.heap.size → Far (.slice A2 n2 cc2) g) := Lib.hid (fun g hg => hN2 g (Nat.lt_of_lt_of_le hg hGW.size))
  have HS2 := Lib.hid hS2
  have HR2 := Lib.hid hR2
  have HG2 := Lib.hid (only_trans hGW hG2)
  clear hS2 hR2 hG2 hN2 hRW hGW hSW k0 k2 k3 f0 f2
  go_wp2
  go_ret2
  exact ⟨_, _, _, rfl, HS2.out, HR2.out, HG2.out, HN2.out⟩

set_option maxRecDepth 20000 in
theorem pvunmarshal (gc : Nat) (t : TypeId) (c0 c1 : Int) (c2 c3 : Value) (A : Option Addr) (n c : Nat) (ty : Nat) (l r : List UInt8) (w : World) (hr : Row w gc t [.int .u16 c0, .int .u16 c1, c2, c3]) (hs : Sl w (.slice A n c) (tlv ty l ++ r))
    (hf : Far (.slice A n c) gc) (hl : l.length ≤ 65531) (ht : ty < 65536) :
    Calls Tryd.prog 48 #[.pointer (some ⟨gc, 0, none⟩), .slice A n c] w (ReadsU w gc t ty (.slice A n c) l) := by
  have Hr := Lib.hid hr
  have Hs := Lib.hid hs
  have Hf := Lib.hid hf
  clear hr hs hf
  go_enter Tryd.func48, Tryd.ntmps48
  go_wp2_with fail
  refine (echunmarshal gc t c0 c1 c2 [c3] A n c ty l r w Hr.out Hs.out Hf.out hl ht).mono ?_
  rintro e w2 ⟨A2, n2, cc2, rfl, hR2, hS2, hf2, hG2⟩
  have k2 : w2.cell? ⟨gc, 2, none⟩ = some (.slice A2 n2 cc2) := by rw [hR2.cell]; rfl
  have k3 : w2.cell? ⟨gc, 3, none⟩ = some c3 := by rw [hR2.cell]; rfl
  have f3 := hR2.frozen 3
  have HR2 := Lib.hid hR2
  have HS2 := Lib.hid hS2
  have HF2 := Lib.hid hf2
  have HG2 := Lib.hid hG2
  clear hR2 hS2 hf2 hG2
  go_wp2
  go_ret
  exact ⟨A2, n2, cc2, rfl, HR2.out.set 3 _, HS2.out.only (only_set (only_refl _ _) 3 _) (HF2.out gc Hf.out), HF2.out, only_set HG2.out 3 _⟩
end Go.Proofs.YtjbegflgbkgjpaaDoor
