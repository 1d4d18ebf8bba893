/- Contracts of ZZHeartbeatText and HeartbeatText. Conditions: the length fits 16 bits. -/
import Derived.Test.YthahoakeibfpcaaDoorHbm
namespace Go.Proofs.YthahoakeibfpcaaDoor
open Go.RowKit Go.Lib

/-- The kind of a HEARTBEAT, or of its answer. -/
def hbk (b : Bool) : Nat := if b then 5 else 4

/-- The three blocks that ZZHeartbeatText makes. -/
structure Laid (w W : World) (A : Option Addr) (n c : Nat) (t : TypeId) (l : List UInt8) : Prop where
  rc : Row W (w.heap.size + 1 + 1) t [.int .u8 0, .int .u8 0, .slice none 0 0, .slice (some ⟨w.heap.size + 1, 0, none⟩) 1 1]
  rp : Row W (w.heap.size + 1) 62 [.iface 42 (.pointer (some ⟨w.heap.size, 0, none⟩))]
  ri : Row W w.heap.size 49 [.int .u16 0, .int .u8 0, .int .i64 0, .slice none 0 0, .slice A n c]
  s : Sl W (.slice A n c) l
  f : 0 < l.length → Far (.slice A n c) w.heap.size
  b : Below w.heap.size w W
theorem laid (w : World) (A : Option Addr) (n c : Nat) (t : TypeId) (l : List UInt8) (hs : Sl w (.slice A n c) l) : Laid w (((w.alloc (.cells #[.int .u16 0, .int .u8 0, .int .i64 0, .slice none 0 0, .slice A n c] 49)).alloc (.cells #[.iface 42 (.pointer (some ⟨w.heap.size, 0, none⟩))] 62)).alloc (.cells #[.int .u8 0, .int .u8 0, .slice none 0 0, .slice (some ⟨w.heap.size + 1, 0, none⟩) 1 1] t)) A n c t l where
  rc := Row.new' _ _ _ (by simp)
  rp := (Row.new' _ _ _ (by simp)).alloc _
  ri := ((Row.new' _ _ _ rfl).alloc _).alloc _
  s := ((hs.alloc _).alloc _).alloc _
  f := fun h => hs.far h (Nat.le_refl _)
  b := (((Below.refl w.heap.size w).alloc (Nat.le_refl _) _).alloc (by simp) _).alloc (by simp; omega) _

set_option maxRecDepth 20000 in
theorem zzhbtext_any (b : Bool) (A : Option Addr) (n c : Nat) (l : List UInt8) (w : World) (hs : Sl w (.slice A n c) l) (hl : l.length ≤ 65527) :
    Calls Tryd.prog 9 #[.bool b, .slice A n c] w (RetSlE w (chunk (hbk b) 0 (tlv 1 l))) := by
  have Hs := Lib.hid hs
  clear hs
  go_enter Tryd.func9, Tryd.ntmps9
  cases b with
  | true =>
    go_wp2_with fail
    have L := laid w A n c 56 l Hs.out
    refine (hbackMarshal w.heap.size _ _ _ _ _ _ _ _ _ _ _ _ _ _ _ l _ L.rc L.rp L.ri L.s L.f (by omega) (by omega) (by omega) (by omega) (by omega) L.b.size hl).mono ?_
    rintro e w2 ⟨A2, n2, c2, rfl, hS2, hB2⟩
    have HS2 := Lib.hid hS2
    have HB2 := Lib.hid (L.b.trans hB2)
    clear hS2 hB2 L
    go_wp2
    go_ret2
    exact ⟨_, _, _, rfl, HS2.out, HB2.out⟩
  | false =>
    go_wp2_with fail
    have L := laid w A n c 59 l Hs.out
    refine (hbMarshal w.heap.size _ _ _ _ _ _ _ _ _ _ _ _ _ _ _ _ l _ L.rc L.rp L.ri L.s L.f (by omega) (by omega) (by omega) (by omega) L.b.size hl).mono ?_
    rintro e w2 ⟨A2, n2, c2, rfl, hS2, hB2⟩
    have HS2 := Lib.hid hS2
    have HB2 := Lib.hid (L.b.trans hB2)
    clear hS2 hB2 L
    go_wp2
    go_ret2
    exact ⟨_, _, _, rfl, HS2.out, HB2.out⟩

set_option maxRecDepth 20000 in
theorem hbtext_any (b : Bool) (A : Option Addr) (n c : Nat) (l : List UInt8) (w : World) (hs : Sl w (.slice A n c) l) (hl : l.length ≤ 65527) :
    Calls Tryd.prog 4 #[.bool b, .slice A n c] w (RetSlB w (chunk (hbk b) 0 (tlv 1 l))) := by
  have Hs := Lib.hid hs
  clear hs
  go_enter Tryd.func4, Tryd.ntmps4
  go_wp2_with fail
  refine (copied_any _ l _ Hs.out (by omega)).mono ?_
  rintro e w1 ⟨A1, n1, c1, rfl, hs1, hb1⟩
  have Hs1 := Lib.hid hs1
  have Hb1 := Lib.hid hb1
  clear hs1 hb1
  go_wp2_with fail
  refine (zzhbtext_any b A1 n1 c1 l _ Hs1.out hl).mono ?_
  rintro e w2 ⟨A2, n2, c2, rfl, hs2, hb2⟩
  have Hs2 := Lib.hid hs2
  have Hb2 := Lib.hid (below_step Hb1.out Hb1.out.size hb2)
  clear hs2 hb2
  go_wp2_with fail
  go_region_with ((go_at_call 10; refine (copied_any _ _ _ Hs2.out.drew (by rw [chunk_length, tlv_length]; omega)).mono ?_; rintro e w3 ⟨A3, n3, c3, rfl, hs3, hb3⟩))
  have Hs3 := Lib.hid hs3
  have Hb3 := Lib.hid hb3
  clear hs3 hb3
  go_wp2
  go_ret2
  exact ⟨A3, n3, c3, rfl, Hs3.out, Hb2.out.drew.trans (Hb3.out.mono Hb2.out.size)⟩
end Go.Proofs.YthahoakeibfpcaaDoor
