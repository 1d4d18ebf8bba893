/- Contract of slicingUpdate at sixteen bytes and more. Conditions: the numbers fit 32 bits. -/
import Derived.Test.YthgpmocbpofnhaaCrcS
namespace Go.Proofs.Ythgpmocbpofnhaa
open Go.RowKit Go.Lib

/-- A slice value's length. -/
def vlen : Value → Nat
  | .slice _ n _ => n
  | _ => 0
theorem xor_next (a b : Nat) (ha : a < 4294967296) (hb : b < 4294967296) : ∃ c : Nat, bits .xor .u32 (a : Int) (b : Int) = (c : Int) ∧ c < 4294967296 ∧ Hid (c = a ^^^ b) :=
  ⟨a ^^^ b, u32_xor_nat a b ha hb, xor_lt32 a b ha hb, Lib.hid rfl⟩
theorem and_next (y k : Nat) (hk : 0 < k) (hy : y < 4294967296) : ∃ z : Nat, bits .and .u32 ((y : Int) / (k : Int)) 255 = (z : Int) ∧ z < 256 ∧ Hid (z = y / k % 256) := by
  have hd : y / k < 4294967296 := Nat.lt_of_le_of_lt (Nat.div_le_self _ _) hy
  refine ⟨y / k % 256, ?_, Nat.mod_lt _ (by omega), Lib.hid rfl⟩
  have h := bit_255 (y / k) hd
  rw [Int.natCast_ediv] at h
  exact h

set_option maxRecDepth 40000 in
set_option maxHeartbeats 1600000 in
theorem slicing_big (cr : Nat) (g0 : Nat) (F : Nat → Nat) (v : Value) (l : List UInt8) (w : World) (hcr : cr < 4294967296) (hr : Row w g0 39 (cellsF F)) (hF : ∀ a x, a < 8 → x < 256 → F (a * 256 + x) = sk pl (a + 1) x) (h : Sl w v l) (hl : 16 ≤ l.length) :
    Calls Try.prog 12 #[.int .u32 (cr : Int), .pointer (some ⟨g0, 0, none⟩), v] w (CrcGot w (upd cr l)) := by
  have H := Lib.hid h
  have Hr := Lib.hid hr
  have HF := Lib.hid hF
  obtain ⟨n, hn⟩ : ∃ n, n = l.length := ⟨_, rfl⟩
  obtain ⟨A, c, hv, hnc, hcm, hl0, h0, hc⟩ := h
  rw [← hn] at hv hl hnc
  obtain ⟨g, o, hA, hgo⟩ := hc (by omega)
  clear hgo
  subst hA
  subst hv
  unfold maxLen at hcm
  have Hn := Lib.hid hn
  have i16 : (16 : Int) ≤ (n : Int) := by omega
  have hi : bits .xor .u32 IntKind.u32.max (cr : Int) = ((inv cr : Nat) : Int) := bits_inv cr hcr
  have hil := inv_lt cr hcr
  obtain ⟨s0, hs0⟩ : ∃ s0, s0 = inv cr := ⟨_, rfl⟩
  rw [← hs0] at hi hil
  have Hs0 := Lib.hid hs0
  clear hc h0 hl0 hn hr hF hs0
  go_enter Try.func12, Try.ntmps12
  go_wp2
  clear hi
  go_loopw [0, 2] (fun a b wr => ∃ (k x off m cc q : Nat), wr = w.drewN q ∧ a = .int .u32 (x : Int) ∧ b = .slice (some ⟨g, off, none⟩) m cc ∧ x < 4294967296 ∧ 0 < m ∧ m ≤ cc ∧ cc ≤ 9223372036854775807 ∧ Hid (x = run pl s0 (l.take k)) ∧ Hid (Sl w (.slice (some ⟨g, off, none⟩) m cc) (l.drop k))) (fun _ b _ => vlen b)
  case atStart => exact ⟨0, s0, o, n, c, 0, rfl, rfl, rfl, hil, by omega, hnc, by omega, Lib.hid rfl, H⟩
  case round =>
    obtain ⟨k, x, off, m, cc, q, rfl, rfl, rfl, hx, hm0, hmc, hcc, Hx, HS⟩ := hrel
    by_cases hlt : 8 < m
    · have hlen := HS.out.len
      obtain ⟨b0, b1, b2, b3, b4, b5, b6, b7, r, hb⟩ := eight (l.drop k) (by omega)
      have hS := HS.out
      rw [hb] at hS
      have HS2 := Lib.hid hS
      have hS3 : Sl w (.slice (some ⟨g, off + 8, none⟩) (m - 8) (cc - 8)) (l.drop (k + 8)) := by
        have h := HS.out.rest 8 (by omega) (by omega)
        rw [List.drop_drop] at h
        exact h
      have HS3 := Lib.hid hS3
      obtain ⟨A', c', hv', _, _, _, _, hc⟩ := hS
      injection hv' with e1 e2 e3
      obtain ⟨g', o', hA', hg⟩ := hc (by simp)
      rw [hA'] at e1
      injection e1 with e1
      injection e1 with e4 e5
      subst e4 e5
      have c4 : w.cell? ⟨g, off + 4, none⟩ = some (.int .u8 (b4.toNat : Int)) := hg 4 _ rfl
      have c5 : w.cell? ⟨g, off + 5, none⟩ = some (.int .u8 (b5.toNat : Int)) := hg 5 _ rfl
      have c6 : w.cell? ⟨g, off + 6, none⟩ = some (.int .u8 (b6.toNat : Int)) := hg 6 _ rfl
      have c7 : w.cell? ⟨g, off + 7, none⟩ = some (.int .u8 (b7.toNat : Int)) := hg 7 _ rfl
      have l4 := b4.toNat_lt
      have l5 := b5.toNat_lt
      have l6 := b6.toNat_lt
      have l7 := b7.toNat_lt
      have hl4 := le4_lt b0 b1 b2 b3
      obtain ⟨y, hy, hyl, Hy⟩ := xor_next x (le4 b0 b1 b2 b3) hx hl4
      obtain ⟨z5, hz5, hz5l, Hz5⟩ := and_next y 65536 (by omega) hyl
      rw [show ((65536 : Nat) : Int) = 65536 from rfl] at hz5
      obtain ⟨z6, hz6, hz6l, Hz6⟩ := and_next y 256 (by omega) hyl
      rw [show ((256 : Nat) : Int) = 256 from rfl] at hz6
      have hz7 : bits .and .u32 (y : Int) 255 = ((y % 256 : Nat) : Int) := bit_255 y hyl
      obtain ⟨z7, hz7e⟩ : ∃ z7, z7 = y % 256 := ⟨_, rfl⟩
      rw [← hz7e] at hz7
      have hz7l : z7 < 256 := by omega
      have Hz7 := Lib.hid hz7e
      obtain ⟨z4, hz4e⟩ : ∃ z4, z4 = y / 16777216 := ⟨_, rfl⟩
      have hz4l : z4 < 256 := by omega
      have hz4 : (y : Int) / 16777216 = (z4 : Int) := by omega
      have Hz4 := Lib.hid hz4e
      clear hz4e
      have t0 := Hr.out.cellF (0 * 256 + b7.toNat) (by omega)
      have t1 := Hr.out.cellF (1 * 256 + b6.toNat) (by omega)
      have t2 := Hr.out.cellF (2 * 256 + b5.toNat) (by omega)
      have t3 := Hr.out.cellF (3 * 256 + b4.toNat) (by omega)
      have t4 := Hr.out.cellF (4 * 256 + z4) (by omega)
      have t5 := Hr.out.cellF (5 * 256 + z5) (by omega)
      have t6 := Hr.out.cellF (6 * 256 + z6) (by omega)
      have t7 := Hr.out.cellF (7 * 256 + z7) (by omega)
      rw [HF.out 0 b7.toNat (by omega) (by omega)] at t0
      rw [HF.out 1 b6.toNat (by omega) (by omega)] at t1
      rw [HF.out 2 b5.toNat (by omega) (by omega)] at t2
      rw [HF.out 3 b4.toNat (by omega) (by omega)] at t3
      rw [HF.out 4 z4 (by omega) (by omega)] at t4
      rw [HF.out 5 z5 (by omega) (by omega)] at t5
      rw [HF.out 6 z6 (by omega) (by omega)] at t6
      rw [HF.out 7 z7 (by omega) (by omega)] at t7
      have k0 := sk_lt pl 1 b7.toNat pl_lt (by omega)
      have k1 := sk_lt pl 2 b6.toNat pl_lt (by omega)
      have k2 := sk_lt pl 3 b5.toNat pl_lt (by omega)
      have k3 := sk_lt pl 4 b4.toNat pl_lt (by omega)
      have k4 := sk_lt pl 5 z4 pl_lt (by omega)
      have k5 := sk_lt pl 6 z5 pl_lt (by omega)
      have k6 := sk_lt pl 7 z6 pl_lt (by omega)
      have k7 := sk_lt pl 8 z7 pl_lt (by omega)
      have hE := by_eight pl x b0 b1 b2 b3 b4 b5 b6 b7 pl_lt hx y Hy.out hyl
      rw [← Hz4.out, ← Hz5.out, ← Hz6.out, ← Hz7.out] at hE
      simp only [Nat.reduceAdd, Nat.reduceMul, Nat.zero_add] at t0 t1 t2 t3 t4 t5 t6 t7
      generalize sk pl 1 b7.toNat = u0 at *
      generalize sk pl 2 b6.toNat = u1 at *
      generalize sk pl 3 b5.toNat = u2 at *
      generalize sk pl 4 b4.toNat = u3 at *
      generalize sk pl 5 z4 = u4 at *
      generalize sk pl 6 z5 = u5 at *
      generalize sk pl 7 z6 = u6 at *
      generalize sk pl 8 z7 = u7 at *
      obtain ⟨d1, hd1, hd1l, Hd1⟩ := xor_next u0 u1 k0 k1
      obtain ⟨d2, hd2, hd2l, Hd2⟩ := xor_next d1 u2 hd1l k2
      obtain ⟨d3, hd3, hd3l, Hd3⟩ := xor_next d2 u3 hd2l k3
      obtain ⟨d4, hd4, hd4l, Hd4⟩ := xor_next d3 u4 hd3l k4
      obtain ⟨d5, hd5, hd5l, Hd5⟩ := xor_next d4 u5 hd4l k5
      obtain ⟨d6, hd6, hd6l, Hd6⟩ := xor_next d5 u6 hd5l k6
      obtain ⟨d7, hd7, hd7l, Hd7⟩ := xor_next d6 u7 hd6l k7
      have Hd : Hid (d7 = run pl s0 (l.take (k + 8))) := by
        show _ = _
        have ht : l.take (k + 8) = l.take k ++ [b0, b1, b2, b3, b4, b5, b6, b7] := by
          rw [List.take_add, hb]; rfl
        rw [ht, run_append, ← Hx.out, ← hE, Hd7.out, Hd6.out, Hd5.out, Hd4.out, Hd3.out, Hd2.out, Hd1.out]
      clear hE hb hg hc Hd1 Hd2 Hd3 Hd4 Hd5 Hd6 Hd7 hz7e Hy Hz4 Hz5 Hz6 Hz7 hA' e2 e3 hlen
      generalize b4.toNat = n4 at *
      generalize b5.toNat = n5 at *
      generalize b6.toNat = n6 at *
      generalize b7.toNat = n7 at *
      have q7 : (n7 : Int) < 256 := by omega
      have q6 : (n6 : Int) < 256 := by omega
      have q5 : (n5 : Int) < 256 := by omega
      have q4 : (n4 : Int) < 256 := by omega
      have qz4 : (z4 : Int) < 256 := by omega
      have qz5 : (z5 : Int) < 256 := by omega
      have qz6 : (z6 : Int) < 256 := by omega
      have qz7 : (z7 : Int) < 256 := by omega
      have j7 : (7 : Int) < (m : Int) := by omega
      have j6 : (6 : Int) < (m : Int) := by omega
      have j5 : (5 : Int) < (m : Int) := by omega
      have j4 : (4 : Int) < (m : Int) := by omega
      have hcc8 : ¬ cc = 8 := by omega
      obtain ⟨L, hL⟩ : ∃ L, L = le4 b0 b1 b2 b3 := ⟨_, rfl⟩
      rw [← hL] at hy hl4
      have HL := Lib.hid hL
      clear hL
      go_wp2_with (go_at_call 14; refine (le_any _ _ _ _ _ _ _ _ _ (HS2.out.drewN _)).mono ?_; rintro e w' ⟨rfl, q2, rfl⟩; rw [← HL.out])
      go_quiet (fail)
      go_wp2
      go_roundw
      case rel => exact ⟨k + 8, d7, off + 8, m - 8, cc - 8, _, rfl, rfl, rfl, hd7l, by omega, by omega, by omega, Hd, HS3⟩
      case measure => simp [vlen]; omega
    · have hi2 : bits .xor .u32 IntKind.u32.max (x : Int) = ((inv x : Nat) : Int) := bits_inv x hx
      have hil2 := inv_lt x hx
      have i0 : ¬ (m : Int) = 0 := by omega
      have hfin : inv (run pl (inv (inv x)) (l.drop k)) = upd cr l := by
        unfold upd
        rw [inv_inv, Hx.out, ← run_append, List.take_append_drop, Hs0.out]
      have Hfin := Lib.hid hfin
      have HF0 : Hid (∀ x, x < 256 → F x = sb pl x) := fun x hx => by
        have h := HF.out 0 x (by omega) hx
        rw [Nat.zero_mul, Nat.zero_add] at h
        exact h
      clear hfin
      obtain ⟨y, hy⟩ : ∃ y, y = inv x := ⟨_, rfl⟩
      rw [← hy] at hi2 hil2
      have Hy := Lib.hid hy
      clear hy
      go_wp2_with fail
      refine (simple_any y g0 _ F _ _ _ hil2 (Hr.out.drewN _) HF0.out (HS.out.drewN _)).mono ?_
      rintro e w' ⟨rfl, rfl⟩
      rw [Hy.out, Hfin.out]
      go_wp2
      go_ret
      exact ⟨rfl, below_drewN (Below.refl _ _) _⟩
end Go.Proofs.Ythgpmocbpofnhaa
