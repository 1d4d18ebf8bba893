/- Contracts of buildErrorCause at the two kinds. Conditions: the length fits 16 bits. -/
import Derived.Test.YtjbegflgbkgjpaaDoorEcu
namespace Go.Proofs.YtjbegflgbkgjpaaDoor
open Go.RowKit Go.Lib

/-- A cause is handed back, in a new block. -/
def RetEc (w : World) (T t : TypeId) (ty : Nat) (v0 : Value) (l : List UInt8) (e : Ending) (w' : World) : Prop :=
  ∃ g A n c, e = .returned (.tuple #[.iface T (.pointer (some ⟨g, 0, none⟩)), .nilIface]) ∧ Row w' g t [.int .u16 (ty : Int), .int .u16 ((4 + l.length : Nat) : Int), .slice A n c, .slice A n c] ∧ Sl w' (.slice A n c) l ∧ (∀ g, Far v0 g → Far (.slice A n c) g) ∧ w.heap.size ≤ g ∧ Below w.heap.size w w'

set_option maxRecDepth 20000 in
theorem build_ua (A : Option Addr) (n c : Nat) (l r : List UInt8) (w : World) (hs : Sl w (.slice A n c) (tlv 12 l ++ r)) (hl : l.length ≤ 65531) :
    Calls Tryd.prog 15 #[.slice A n c] w (RetEc w 77 79 12 (.slice A n c) l) := by
  have hn := hs.len
  simp only [List.length_append, tlv_length] at hn
  have Hs := Lib.hid hs
  obtain ⟨A', c', hv, hnc, hcm, hl0, h0, hc⟩ := hs
  injection hv with e1 e2 e3
  subst e1 e3
  obtain ⟨g, o, rfl, _⟩ := hc (by rw [List.length_append, tlv_length]; omega)
  have hcn : n ≤ c := by rw [List.length_append, tlv_length] at hnc; omega
  have n4 : 4 ≤ n := by omega
  have hc0 : ¬ c = 0 := by omega
  have Hsub : Hid (Sl w.drew (.slice (some ⟨g, o, none⟩) n c) (be 2 12 ++ (be 2 (4 + l.length) ++ (l ++ r)))) := Lib.hid (by have h := Hs.out; rw [show tlv 12 l ++ r = be 2 12 ++ (be 2 (4 + l.length) ++ (l ++ r)) by simp [tlv]] at h; exact h)
  have hm : ∀ (a : Addr) (w : World), (method 236 77 (.pointer (some a)) "loop.example/pub-g03037/pub/sctp.unmarshal").run Tryd.prog w = .ok (50, .pointer (some a)) w := fun _ _ => by kernel_rfl
  clear hn hnc hcm hl0 h0 hc e2
  go_enter Tryd.func15, Tryd.ntmps15
  go_wp2_with fail
  go_region_with ((go_at_call 19; refine (get16_be _ _ _ 12 _ _ Hsub.out (by omega)).mono ?_; rintro z w1 ⟨rfl, hb1⟩))
  have HB1 := Lib.hid ((Below.refl w.heap.size w).drew.trans hb1)
  clear hb1
  go_wp2_with fail
  have hR := Row.new' (g := w1.heap.size) w1 79 #[.int .u16 0, .int .u16 0, .slice none 0 0, .slice none 0 0] rfl
  have hB := HB1.out.alloc HB1.out.size (.cells #[.int .u16 0, .int .u16 0, .slice none 0 0, .slice none 0 0] 79)
  refine (uaunmarshal w1.heap.size 79 0 0 _ _ _ n c 12 l r _ hR (Hs.out.below hB) (Hs.out.far (by rw [List.length_append, tlv_length]; omega) HB1.out.size) hl (by omega)).mono ?_
  rintro e w2 ⟨A2, n2, cc2, rfl, hR2, hS2, hf2, hG2⟩
  have HR2 := Lib.hid hR2
  have HS2 := Lib.hid hS2
  have HF2 := Lib.hid hf2
  have HB2 := Lib.hid (below_only hB hB.size hG2 HB1.out.size)
  have Hz := Lib.hid HB1.out.size
  clear hR hB hR2 hS2 hf2 hG2
  go_wp2
  go_ret2
  exact ⟨w1.heap.size, _, _, _, rfl, HR2.out, HS2.out, HF2.out, Hz.out, HB2.out⟩

set_option maxRecDepth 20000 in
theorem build_pv (A : Option Addr) (n c : Nat) (l r : List UInt8) (w : World) (hs : Sl w (.slice A n c) (tlv 13 l ++ r)) (hl : l.length ≤ 65531) :
    Calls Tryd.prog 15 #[.slice A n c] w (RetEc w 74 76 13 (.slice A n c) l) := by
  have hn := hs.len
  simp only [List.length_append, tlv_length] at hn
  have Hs := Lib.hid hs
  obtain ⟨A', c', hv, hnc, hcm, hl0, h0, hc⟩ := hs
  injection hv with e1 e2 e3
  subst e1 e3
  obtain ⟨g, o, rfl, _⟩ := hc (by rw [List.length_append, tlv_length]; omega)
  have hcn : n ≤ c := by rw [List.length_append, tlv_length] at hnc; omega
  have n4 : 4 ≤ n := by omega
  have hc0 : ¬ c = 0 := by omega
  have Hsub : Hid (Sl w.drew (.slice (some ⟨g, o, none⟩) n c) (be 2 13 ++ (be 2 (4 + l.length) ++ (l ++ r)))) := Lib.hid (by have h := Hs.out; rw [show tlv 13 l ++ r = be 2 13 ++ (be 2 (4 + l.length) ++ (l ++ r)) by simp [tlv]] at h; exact h)
  have hm : ∀ (a : Addr) (w : World), (method 236 74 (.pointer (some a)) "loop.example/pub-g03037/pub/sctp.unmarshal").run Tryd.prog w = .ok (48, .pointer (some a)) w := fun _ _ => by kernel_rfl
  clear hn hnc hcm hl0 h0 hc e2
  go_enter Tryd.func15, Tryd.ntmps15
  go_wp2_with fail
  go_region_with ((go_at_call 19; refine (get16_be _ _ _ 13 _ _ Hsub.out (by omega)).mono ?_; rintro z w1 ⟨rfl, hb1⟩))
  have HB1 := Lib.hid ((Below.refl w.heap.size w).drew.trans hb1)
  clear hb1
  go_wp2_with fail
  have hR := Row.new' (g := w1.heap.size) w1 76 #[.int .u16 0, .int .u16 0, .slice none 0 0, .slice none 0 0] rfl
  have hB := HB1.out.alloc HB1.out.size (.cells #[.int .u16 0, .int .u16 0, .slice none 0 0, .slice none 0 0] 76)
  refine (pvunmarshal w1.heap.size 76 0 0 _ _ _ n c 13 l r _ hR (Hs.out.below hB) (Hs.out.far (by rw [List.length_append, tlv_length]; omega) HB1.out.size) hl (by omega)).mono ?_
  rintro e w2 ⟨A2, n2, cc2, rfl, hR2, hS2, hf2, hG2⟩
  have HR2 := Lib.hid hR2
  have HS2 := Lib.hid hS2
  have HF2 := Lib.hid hf2
  have HB2 := Lib.hid (below_only hB hB.size hG2 HB1.out.size)
  have Hz := Lib.hid HB1.out.size
  clear hR hB hR2 hS2 hf2 hG2
  go_wp2
  go_ret2
  exact ⟨w1.heap.size, _, _, _, rfl, HR2.out, HS2.out, HF2.out, Hz.out, HB2.out⟩
end Go.Proofs.YtjbegflgbkgjpaaDoor
