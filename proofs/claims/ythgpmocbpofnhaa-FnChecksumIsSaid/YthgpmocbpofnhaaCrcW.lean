/- Contracts of the reference's crc, of simpleUpdate and of simplePopulateTable. Conditions: the numbers fit 32 bits. -/
import Derived.Test.YthgpmocbpofnhaaCrcB
namespace Go.Proofs.Ythgpmocbpofnhaa
open Go.RowKit Go.Lib

/-- The polynomial. -/
def pl : Nat := 2197175160
theorem pl_lt : pl < 4294967296 := by decide
/-- All 32 bits turned. -/
def ones : Nat := 4294967295
theorem xor_lt32 (a b : Nat) (ha : a < 4294967296) (hb : b < 4294967296) : a ^^^ b < 4294967296 := by
  have h : a ^^^ b < 2 ^ 32 := Nat.xor_lt_two_pow (by omega) (by omega)
  omega
def invm (m c : Nat) : Nat := m ^^^ c
theorem invm_lt (m c : Nat) (hm : m < 4294967296) (h : c < 4294967296) : invm m c < 4294967296 := xor_lt32 m c hm h
theorem invm_invm (m c : Nat) : invm m (invm m c) = c := by
  unfold invm
  rw [← Nat.xor_assoc, Nat.xor_self, Nat.zero_xor]
theorem invm_bits (m x : Nat) (hm : m < 4294967296) (h : x < 4294967296) : bits .xor .u32 (m : Int) (x : Int) = ((invm m x : Nat) : Int) := u32_xor_nat m x hm h
def inv (c : Nat) : Nat := invm ones c
theorem ones_lt : ones < 4294967296 := by decide
theorem inv_lt (c : Nat) (h : c < 4294967296) : inv c < 4294967296 := invm_lt ones c ones_lt h
theorem inv_inv (c : Nat) : inv (inv c) = c := invm_invm ones c

theorem bit_odd (x : Nat) (h : x < 4294967296) : bits .and .u32 (x : Int) 1 = ((x % 2 : Nat) : Int) := by
  have := u32_and_nat x 1 h (by omega)
  rw [show ((1 : Nat) : Int) = 1 from rfl] at this
  rw [this, Nat.and_one_is_mod]
theorem bit_255 (x : Nat) (h : x < 4294967296) : bits .and .u32 (x : Int) 255 = ((x % 256 : Nat) : Int) := by
  have := u32_and_nat x 255 h (by omega)
  rw [show ((255 : Nat) : Int) = 255 from rfl] at this
  rw [this, show (255 : Nat) = 2 ^ 8 - 1 from rfl, Nat.and_two_pow_sub_one_eq_mod]

theorem bits_inv (x : Nat) (h : x < 4294967296) : bits .xor .u32 4294967295 (x : Int) = ((inv x : Nat) : Int) := invm_bits ones x ones_lt h
theorem ret_int {k : IntKind} {a b : Int} (h : a = b) : Ending.returned (.int k a) = .returned (.int k b) := by rw [h]
def CrcIs (w : World) (v : Nat) (e : Ending) (w' : World) : Prop := e = .returned (.int .u32 (v : Int)) ∧ w = w'

set_option maxRecDepth 20000 in
theorem crc_any (v : Value) (l : List UInt8) (w : World) (h : Sl w v l) :
    Calls Try.prog 8 #[v] w (CrcIs w (inv (run pl 4294967295 l))) := by
  obtain ⟨n, hn⟩ : ∃ n, n = l.length := ⟨_, rfl⟩
  obtain ⟨A, c, rfl, hnc, hcm, hl0, h0, hc⟩ := h
  rw [← hn] at hnc hc ⊢
  have HC := Lib.hid hc
  have Hn := Lib.hid hn
  clear hc h0 hl0 hn
  unfold maxLen at hcm
  go_enter Try.func8, Try.ntmps8
  go_wp2
  go_loop [3, 10] (fun o i => ∃ (k x : Nat), k ≤ n ∧ i = .int .i64 k ∧ o = .int .u32 (x : Int) ∧ x < 4294967296 ∧ Hid (x = run pl 4294967295 (l.take k))) (fun _ i => n - (intOf i).toNat)
  case atStart => exact ⟨0, 4294967295, Nat.zero_le _, rfl, rfl, by omega, Lib.hid rfl⟩
  case round =>
    obtain ⟨k, x, hk, rfl, rfl, hx, Hx⟩ := hrel
    by_cases hlt : k < n
    · obtain ⟨g, o, rfl, hg⟩ := HC.out (by omega)
      have hlk : k < l.length := by have := Hn.out; omega
      have hb : l[k]? = some l[k] := List.getElem?_eq_getElem hlk
      generalize l[k] = b at hb
      have hcell : w.cell? ⟨g, o + k, none⟩ = some (.int .u8 (b.toNat : Int)) := hg k _ (by simp [bvs, hb, bv])
      have hb256 := b.toNat_lt
      obtain ⟨y, hy⟩ : ∃ y, y = x ^^^ b.toNat := ⟨_, rfl⟩
      have hy32 : y < 4294967296 := by rw [hy]; exact Nat.xor_lt_two_pow (n := 32) (by omega) (by omega)
      have hxor : bits .xor .u32 (x : Int) (b.toNat : Int) = (y : Int) := by rw [hy]; exact u32_xor_nat x b.toNat hx (by omega)
      have Hb := Lib.hid hb
      have Hy := Lib.hid hy
      clear hb hy hg
      generalize hbv : b.toNat = bn at *
      have Hbv := Lib.hid hbv
      clear hbv
      have hbn : IntKind.u32.wrap (bn : Int) = (bn : Int) := by simp [IntKind.wrap, IntKind.bits, IntKind.signed]; omega
      go_wp2
      go_loop [3, 6] (fun o j => ∃ (m z : Nat), m ≤ 8 ∧ j = .int .i64 m ∧ o = .int .u32 (z : Int) ∧ z < 4294967296 ∧ Hid (z = stn pl m y)) (fun _ j => 8 - (intOf j).toNat)
      case atStart => exact ⟨0, y, by omega, rfl, rfl, hy32, Lib.hid rfl⟩
      case round =>
        obtain ⟨m, z, hm, rfl, rfl, hz, Hz⟩ := hrel
        clear hxor hbn hcell
        by_cases hm8 : m < 8
        · have Hz' : Hid (st pl z = stn pl (m + 1) y) := by show _ = _; rw [stn_succ, ← Hz.out]
          have hs := st_lt pl z pl_lt hz
          by_cases ho : z % 2 = 1
          · have ha : bits .and .u32 (z : Int) 1 = 1 := by rw [bit_odd z hz, ho]; rfl
            have hxr : bits .xor .u32 ((z : Int) / 2) 2197175160 = ((st pl z : Nat) : Int) := by
              have h := u32_xor_nat (z / 2) pl (by omega) pl_lt
              rw [show ((pl : Nat) : Int) = 2197175160 from rfl] at h
              rw [show (z : Int) / 2 = ((z / 2 : Nat) : Int) by omega, h]
              unfold st
              rw [if_pos ho]
            go_wp2
            go_round
            case rel => exact ⟨m + 1, st pl z, by omega, by go_num, rfl, hs, Hz'⟩
            case measure => simp [intOf]; omega
          · have ha : bits .and .u32 (z : Int) 1 = 0 := by rw [bit_odd z hz, show z % 2 = 0 by omega]; rfl
            have hxr : Hid ((z : Int) / 2 = ((st pl z : Nat) : Int)) := by
              show _ = _
              unfold st
              rw [if_neg ho]
              omega
            go_wp2
            go_round
            case rel => exact ⟨m + 1, st pl z, by omega, by go_num, by rw [hxr.out], hs, Hz'⟩
            case measure => simp [intOf]; omega
        · obtain rfl : m = 8 := by omega
          have Hz' : Hid (z = run pl 4294967295 (l.take (k + 1))) := by
            show _ = _
            rw [List.take_add_one, Hb.out, Option.toList_some, run_append, ← Hx.out, Hz.out, Hy.out, ← Hbv.out]
            rfl
          go_wp2
          go_round
          case rel => exact ⟨k + 1, z, by omega, by go_num, rfl, hz, Hz'⟩
          case measure => simp [intOf]; omega
    · obtain rfl : k = n := by omega
      go_wp2
      go_ret
      refine ⟨ret_int ?_, rfl⟩
      show bits .xor .u32 4294967295 (x : Int) = _
      rw [bits_inv x hx, Hx.out, Hn.out, List.take_length]
end Go.Proofs.Ythgpmocbpofnhaa
