/- Contracts of leUint32, slicingUpdate, SlicingUpdate. Conditions: the numbers fit 32 bits. -/
import Derived.Test.YthgpmocbpofnhaaCrcT
namespace Go.Proofs.Ythgpmocbpofnhaa
open Go.RowKit Go.Lib

theorem xor_join (y z k : Nat) (hy : y < 2 ^ k) : y ^^^ (z * 2 ^ k) = y + z * 2 ^ k := by
  have h := split_at (y + z * 2 ^ k) k
  have e1 : (y + z * 2 ^ k) % 2 ^ k = y := by rw [Nat.add_mul_mod_self_right, Nat.mod_eq_of_lt hy]
  have e2 : (y + z * 2 ^ k) / 2 ^ k = z := by rw [Nat.add_mul_div_right _ _ (Nat.two_pow_pos k), Nat.div_eq_of_lt hy, Nat.zero_add]
  rw [e1, e2] at h
  exact h.symm
theorem le4_sum (a b c d : UInt8) : le4 a b c d = a.toNat + b.toNat * 256 + c.toNat * 65536 + d.toNat * 16777216 := by
  have ha := a.toNat_lt
  have hb := b.toNat_lt
  have hc := c.toNat_lt
  have h1 := xor_join a.toNat b.toNat 8 (by omega)
  have h2 := xor_join (a.toNat + b.toNat * 2 ^ 8) c.toNat 16 (by omega)
  have h3 := xor_join (a.toNat + b.toNat * 2 ^ 8 + c.toNat * 2 ^ 16) d.toNat 24 (by omega)
  have e : le4 a b c d = ((a.toNat ^^^ (b.toNat * 2 ^ 8)) ^^^ (c.toNat * 2 ^ 16)) ^^^ (d.toNat * 2 ^ 24) := rfl
  rw [e, h1, h2, h3]
theorem le4_lt (a b c d : UInt8) : le4 a b c d < 4294967296 := by
  have ha := a.toNat_lt
  have hb := b.toNat_lt
  have hc := c.toNat_lt
  have hd := d.toNat_lt
  rw [le4_sum]
  omega

theorem le_any (A : Option Addr) (n c : Nat) (a b d e : UInt8) (r : List UInt8) (w : World) (h : Sl w (.slice A n c) (a :: b :: d :: e :: r)) :
    Calls Try.prog 14 #[.slice A n c] w fun z w' => z = .returned (.int .u32 ((le4 a b d e : Nat) : Int)) ∧ ∃ q, w' = w.drewN q := by
  have hn := h.len
  obtain ⟨A', c', hv, hnc, hcm, hl0, h0, hc⟩ := h
  injection hv with e1 e2 e3
  subst e1
  obtain ⟨g, o, rfl, hg⟩ := hc (by simp)
  have hc0 : w.cell? ⟨g, o, none⟩ = some (.int .u8 (a.toNat : Int)) := hg 0 _ rfl
  have hc1 : w.cell? ⟨g, o + 1, none⟩ = some (.int .u8 (b.toNat : Int)) := hg 1 _ rfl
  have hc2 : w.cell? ⟨g, o + 2, none⟩ = some (.int .u8 (d.toNat : Int)) := hg 2 _ rfl
  have hc3 : w.cell? ⟨g, o + 3, none⟩ = some (.int .u8 (e.toNat : Int)) := hg 3 _ rfl
  have hn2 : 4 ≤ n := by rw [hn]; simp
  have ha := a.toNat_lt
  have hb := b.toNat_lt
  have hd := d.toNat_lt
  have he := e.toNat_lt
  generalize hA : a.toNat = x at *
  generalize hB : b.toNat = y at *
  generalize hD : d.toNat = u at *
  generalize hE : e.toNat = v at *
  have HA := Lib.hid hA
  have HB := Lib.hid hB
  have HD := Lib.hid hD
  have HE := Lib.hid hE
  clear hg hc h0 e2 e3 hl0 hcm hnc hn hA hB hD hE
  have h3 : (3 : Int) < (n : Int) := by omega
  have h2 : (2 : Int) < (n : Int) := by omega
  have h1 : (1 : Int) < (n : Int) := by omega
  have h0 : (0 : Int) < (n : Int) := by omega
  go_enter Try.func14, Try.ntmps14
  go_wp2
  go_quiet (fail)
  go_wp2
  go_ret
  refine ⟨ret_int (k := .u32) ?_, _, rfl⟩
  rw [le4_sum, HA.out, HB.out, HD.out, HE.out]
  simp (disch := omega) only [u32_or8, u32_or16, u32_or24]
  omega

/-- A slice with eight bytes and more. -/
theorem eight (l : List UInt8) (h : 8 ≤ l.length) : ∃ b0 b1 b2 b3 b4 b5 b6 b7 r, l = b0 :: b1 :: b2 :: b3 :: b4 :: b5 :: b6 :: b7 :: r := by
  match l, h with
  | b0 :: b1 :: b2 :: b3 :: b4 :: b5 :: b6 :: b7 :: r, _ => exact ⟨b0, b1, b2, b3, b4, b5, b6, b7, r, rfl⟩

theorem Sl.sub {w : World} {g o n c : Nat} {l : List UInt8} (h : Sl w (.slice (some ⟨g, o, none⟩) n c) l) (lo m : Nat) (hm : lo + m ≤ n) :
    Sl w (.slice (if c = lo then some ⟨g, o, none⟩ else some ⟨g, o + lo, none⟩) m (c - lo)) ((l.drop lo).take m) := by
  have hn := h.len
  obtain ⟨A', c', hv, hnc, hcm, hl0, h0, hc⟩ := h
  injection hv with e1 e2 e3
  subst e1 e3
  have hlen : ((l.drop lo).take m).length = m := by simp; omega
  refine ⟨_, _, by rw [hlen], by rw [hlen]; omega, by omega, by simp [bvs], (by intro h; split at h <;> cases h), fun hp => ?_⟩
  rw [hlen] at hp
  rw [if_neg (by omega)]
  refine ⟨g, o + lo, rfl, fun j u hu => ?_⟩
  obtain ⟨g', o', hA, hg⟩ := hc (by omega)
  injection hA with hA
  injection hA with h1 h2 _
  subst h1 h2
  rw [Nat.add_assoc]
  refine hg (lo + j) u ?_
  rw [← hu]
  simp only [bvs, List.map_take, List.map_drop, List.getElem?_take, List.getElem?_drop]
  rw [if_pos]
  have := (List.getElem?_eq_some_iff.1 hu).1
  rw [bvs_length, hlen] at this
  exact this
theorem Sl.rest {w : World} {g o n c : Nat} {l : List UInt8} (h : Sl w (.slice (some ⟨g, o, none⟩) n c) l) (lo : Nat) (hlo : lo ≤ n) (hc : ¬ c = lo) : Sl w (.slice (some ⟨g, o + lo, none⟩) (n - lo) (c - lo)) (l.drop lo) := by
  have h2 := h.sub lo (n - lo) (by omega)
  rw [if_neg hc, List.take_of_length_le (by have := h.len; simp; omega)] at h2
  exact h2

def CrcGot (w : World) (v : Nat) (e : Ending) (w' : World) : Prop := e = .returned (.int .u32 (v : Int)) ∧ Below w.heap.size w w'

/-- slicingUpdate's answer. -/
def upd (cr : Nat) (l : List UInt8) : Nat := inv (run pl (inv cr) l)
theorem upd_nil (cr : Nat) : upd cr [] = cr := inv_inv cr

set_option maxRecDepth 20000 in
theorem slicing_small (cr : Nat) (g0 : Nat) (F : Nat → Nat) (v : Value) (l : List UInt8) (w : World) (hcr : cr < 4294967296) (hr : Row w g0 39 (cellsF F)) (hF : ∀ x, x < 256 → F x = sb pl x) (h : Sl w v l) (hl : l.length < 16) :
    Calls Try.prog 12 #[.int .u32 (cr : Int), .pointer (some ⟨g0, 0, none⟩), v] w (CrcIs w (upd cr l)) := by
  have H := Lib.hid h
  have Hr := Lib.hid hr
  have HF := Lib.hid hF
  obtain ⟨n, hn⟩ : ∃ n, n = l.length := ⟨_, rfl⟩
  obtain ⟨A, c, hv, hnc, hcm, hl0, h0, hc⟩ := h
  rw [← hn] at hv hl
  subst hv
  have Hn := Lib.hid hn
  clear hc h0 hl0 hnc hcm hn hr hF
  have i16 : ¬ (16 : Int) ≤ (n : Int) := by omega
  by_cases hz : n = 0
  · have hl0 : l = [] := List.eq_nil_of_length_eq_zero (by rw [← Hn.out, hz])
    have Hz := Lib.hid hl0
    clear hl0
    subst hz
    go_enter Try.func12, Try.ntmps12
    go_wp2
    go_ret
    exact ⟨by rw [Hz.out, upd_nil]; rfl, rfl⟩
  · have i0 : ¬ (n : Int) = 0 := by omega
    go_enter Try.func12, Try.ntmps12
    go_wp2_with fail
    refine (simple_any cr g0 _ F _ l _ hcr Hr.out HF.out H.out).mono ?_
    rintro e w' ⟨rfl, rfl⟩
    go_wp2
    go_ret
    exact ⟨rfl, rfl⟩
end Go.Proofs.Ythgpmocbpofnhaa
