/- Contracts of ZZHeartbeatOf and HeartbeatOf. Conditions: the length fits 16 bits. -/
import Derived.Test.YthahoakeibfpcaaDoorHbu
import Derived.BigQuiet
namespace Go.Proofs.YthahoakeibfpcaaDoor
open Go.RowKit Go.Lib

/-- A heartbeat is handed back: whether it is an answer, its information, no error. -/
def RetHb (w : World) (b : Bool) (u : Value) (l : List UInt8) (e : Ending) (w' : World) : Prop := ∃ A n c, e = .returned (.tuple #[.bool b, .slice A n c, u]) ∧ Sl w' (.slice A n c) l ∧ Below w.heap.size w w'

set_option maxRecDepth 20000 in
theorem zzhbof_any (b : Bool) (A : Option Addr) (n c : Nat) (l : List UInt8) (w : World) (hs : Sl w (.slice A n c) (chunk (hbk b) 0 (tlv 1 l))) (hl : l.length ≤ 65527) :
    Calls Tryd.prog 11 #[.slice A n c] w (RetHb w b .nilIface l) := by
  rw [chunk_hd0] at hs
  have hn := hs.len
  simp only [List.length_cons, List.length_append] at hn
  have Hs := Lib.hid hs
  obtain ⟨A', c', hv, hnc, hcm, hl0, h0, hc⟩ := hs
  injection hv with e1 e2 e3
  subst e1 e3
  obtain ⟨g, o, rfl, hg⟩ := hc (by simp)
  have b0 : w.cell? ⟨g, o, none⟩ = some (.int .u8 ((UInt8.ofNat (hbk b)).toNat : Int)) := hg 0 _ rfl
  have i0 : (0 : Int) < (n : Int) := by omega
  have hgt : (n : Int) > 0 := by omega
  clear hg hc h0 hl0 hcm e2 hnc hn
  go_enter Tryd.func11, Tryd.ntmps11
  have ta : ∀ (v : Value) (w : World), (Instr.typeAssert (.iface 42 v) 62 42 true).run Tryd.prog w = .ok (.tuple #[v, .bool true]) w := fun _ _ => by kernel_rfl
  cases b with
  | true =>
    rw [show ((UInt8.ofNat (hbk true)).toNat : Int) = 5 from rfl] at b0
    go_wp2_with fail
    refine (hbackUnmarshal w.heap.size 56 _ _ _ _ n c l _ (Row.new' _ _ _ rfl) (Hs.out.alloc _) (Hs.out.far (by simp) (Nat.le_refl _)) hl).mono ?_
    rintro e w2 ⟨A2, n2, c2, Ap, cp, gi, ti, x0, x1, x2, x3, y0, y1, y2, rfl, hR2, hP2, hI2, hS2, hG2⟩
    obtain ⟨A', c', hv, hnc, hcm, hl0, h0, hc⟩ := hP2
    injection hv with e1 e2 e3
    subst e1 e3
    obtain ⟨gp, op, rfl, hgp⟩ := hc (by simp)
    have k3 : w2.cell? ⟨w.heap.size, 3, none⟩ = some (.slice (some ⟨gp, op, none⟩) 1 cp) := by rw [hR2.cell]; rfl
    have p0 : w2.cell? ⟨gp, op, none⟩ = some (.iface 42 (.pointer (some ⟨gi, 0, none⟩))) := hgp 0 _ rfl
    have i4 : w2.cell? ⟨gi, 4, none⟩ = some (.slice A2 n2 c2) := by rw [hI2.cell]; rfl
    have HS2 := Lib.hid hS2
    have HB2 := Lib.hid (below_only ((Below.refl w.heap.size w).alloc (Nat.le_refl _) _) (by simp) hG2 (Nat.le_refl _))
    clear hR2 hI2 hS2 hG2 hgp hc h0 hl0 hcm hnc b0
    go_wp2_with fail
    go_loopw [51] (fun i wr => i = .int .i64 0 ∧ wr = w2) (fun _ _ => 0)
    case atStart => exact ⟨rfl, rfl⟩
    case round =>
      obtain ⟨rfl, rfl⟩ := hrel
      go_wp2_with fail
      go_quiet (fail)
      go_wp2
      go_ret3
      exact ⟨_, _, _, rfl, HS2.out, below_drewN HB2.out _⟩
  | false =>
    rw [show ((UInt8.ofNat (hbk false)).toNat : Int) = 4 from rfl] at b0
    go_wp2_with fail
    refine (hbUnmarshal w.heap.size 59 _ _ _ _ n c l _ (Row.new' _ _ _ rfl) (Hs.out.alloc _) (Hs.out.far (by simp) (Nat.le_refl _)) hl).mono ?_
    rintro e w2 ⟨A2, n2, c2, Ap, cp, gi, ti, x0, x1, x2, x3, y0, y1, y2, rfl, hR2, hP2, hI2, hS2, hG2⟩
    obtain ⟨A', c', hv, hnc, hcm, hl0, h0, hc⟩ := hP2
    injection hv with e1 e2 e3
    subst e1 e3
    obtain ⟨gp, op, rfl, hgp⟩ := hc (by simp)
    have k3 : w2.cell? ⟨w.heap.size, 3, none⟩ = some (.slice (some ⟨gp, op, none⟩) 1 cp) := by rw [hR2.cell]; rfl
    have p0 : w2.cell? ⟨gp, op, none⟩ = some (.iface 42 (.pointer (some ⟨gi, 0, none⟩))) := hgp 0 _ rfl
    have i4 : w2.cell? ⟨gi, 4, none⟩ = some (.slice A2 n2 c2) := by rw [hI2.cell]; rfl
    have HS2 := Lib.hid hS2
    have HB2 := Lib.hid (below_only ((Below.refl w.heap.size w).alloc (Nat.le_refl _) _) (by simp) hG2 (Nat.le_refl _))
    clear hR2 hI2 hS2 hG2 hgp hc h0 hl0 hcm hnc b0
    go_wp2_with fail
    go_loopw [51] (fun i wr => i = .int .i64 0 ∧ wr = w2) (fun _ _ => 0)
    case atStart => exact ⟨rfl, rfl⟩
    case round =>
      obtain ⟨rfl, rfl⟩ := hrel
      go_wp2_with fail
      go_quiet (fail)
      go_wp2
      go_ret3
      exact ⟨_, _, _, rfl, HS2.out, below_drewN HB2.out _⟩

set_option maxRecDepth 20000 in
theorem hbof_any (b : Bool) (A : Option Addr) (n c : Nat) (l : List UInt8) (w : World) (hs : Sl w (.slice A n c) (chunk (hbk b) 0 (tlv 1 l))) (hl : l.length ≤ 65527) :
    Calls Tryd.prog 5 #[.slice A n c] w (RetHb w b (.bool true) l) := by
  have Hs := Lib.hid hs
  clear hs
  go_enter Tryd.func5, Tryd.ntmps5
  go_wp2_with fail
  refine (copied_any _ _ _ Hs.out (by rw [chunk_length, tlv_length]; omega)).mono ?_
  rintro e w1 ⟨A1, n1, c1, rfl, hs1, hb1⟩
  have Hs1 := Lib.hid hs1
  have Hb1 := Lib.hid hb1
  clear hs1 hb1
  go_wp2_with fail
  refine (zzhbof_any b A1 n1 c1 l _ Hs1.out hl).mono ?_
  rintro e w2 ⟨A2, n2, c2, rfl, hs2, hb2⟩
  have Hs2 := Lib.hid hs2
  have Hb2 := Lib.hid (below_step Hb1.out Hb1.out.size hb2)
  clear hs2 hb2
  go_wp2_with fail
  go_region_with ((go_at_call 10; refine (copied_any _ _ _ Hs2.out.drew (by omega)).mono ?_; rintro e w3 ⟨A3, n3, c3, rfl, hs3, hb3⟩))
  have Hs3 := Lib.hid hs3
  have Hb3 := Lib.hid hb3
  clear hs3 hb3
  go_wp2
  go_ret3
  exact ⟨A3, n3, c3, rfl, Hs3.out, Hb2.out.drew.trans (Hb3.out.mono Hb2.out.size)⟩
end Go.Proofs.YthahoakeibfpcaaDoor
