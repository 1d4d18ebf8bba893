/- Plain mathematics of CRC-32: one bit, one byte, the tables, eight bytes at a time; and the model's words on 32 bits as natural numbers. No condition. -/
import Derived.Laws.BitsAllLaws
namespace Go.Proofs.Ythgpmocbpofnhaa

/-- One bit of the division by the polynomial p. -/
def st (p c : Nat) : Nat := if c % 2 = 1 then (c / 2) ^^^ p else c / 2
/-- k bits. -/
def stn (p : Nat) : Nat → Nat → Nat
  | 0, c => c
  | k + 1, c => stn p k (st p c)
/-- One byte: eight bits. -/
def sb (p c : Nat) : Nat := stn p 8 c
/-- k bytes. -/
def sk (p : Nat) : Nat → Nat → Nat
  | 0, c => c
  | k + 1, c => sb p (sk p k c)
/-- Bytes are taken in. -/
def run (p : Nat) (c : Nat) (l : List UInt8) : Nat := l.foldl (fun c b => sb p (c ^^^ b.toNat)) c

theorem stn_succ (p k c : Nat) : stn p (k + 1) c = st p (stn p k c) := by
  induction k generalizing c with
  | zero => rfl
  | succ k ih =>
    show stn p (k + 1) (st p c) = st p (stn p k (st p c))
    exact ih _
theorem xor_div (a b k : Nat) : (a ^^^ b) / 2 ^ k = (a / 2 ^ k) ^^^ (b / 2 ^ k) := by
  apply Nat.eq_of_testBit_eq
  intro i
  simp [Nat.testBit_div_two_pow]
theorem xor_mod (a b k : Nat) : (a ^^^ b) % 2 ^ k = (a % 2 ^ k) ^^^ (b % 2 ^ k) := by
  apply Nat.eq_of_testBit_eq
  intro i
  simp only [Nat.testBit_mod_two_pow, Nat.testBit_xor]
  by_cases h : i < k <;> simp [h]
theorem xor_div2 (a b : Nat) : (a ^^^ b) / 2 = (a / 2) ^^^ (b / 2) := by simpa using xor_div a b 1
theorem xor_mod2 (a b : Nat) : (a ^^^ b) % 2 = (a % 2 + b % 2) % 2 := by
  have h := xor_mod a b 1
  simp only [Nat.pow_one] at h
  rw [h]
  rcases Nat.mod_two_eq_zero_or_one a with ha | ha <;> rcases Nat.mod_two_eq_zero_or_one b with hb | hb <;> rw [ha, hb] <;> rfl
theorem xor4 (a b c d : Nat) : (a ^^^ b) ^^^ (c ^^^ d) = (a ^^^ c) ^^^ (b ^^^ d) := by
  rw [Nat.xor_assoc, Nat.xor_assoc, ← Nat.xor_assoc b c d, Nat.xor_comm b c, Nat.xor_assoc c b d]
theorem xor5 (a b c d e : Nat) : a ^^^ b ^^^ c ^^^ d ^^^ e = a ^^^ (b ^^^ c ^^^ d ^^^ e) := by simp only [Nat.xor_assoc]
theorem st_xor (p a b : Nat) : st p (a ^^^ b) = st p a ^^^ st p b := by
  unfold st
  rw [xor_mod2, xor_div2]
  rcases Nat.mod_two_eq_zero_or_one a with ha | ha <;> rcases Nat.mod_two_eq_zero_or_one b with hb | hb <;> simp [ha, hb]
  · rw [Nat.xor_assoc]
  · rw [Nat.xor_assoc, Nat.xor_assoc, Nat.xor_comm (b / 2) p]
  · rw [xor4, Nat.xor_self, Nat.xor_zero]
theorem stn_xor (p k a b : Nat) : stn p k (a ^^^ b) = stn p k a ^^^ stn p k b := by
  induction k generalizing a b with
  | zero => rfl
  | succ k ih => show stn p k _ = _; rw [st_xor, ih]; rfl
theorem sb_xor (p a b : Nat) : sb p (a ^^^ b) = sb p a ^^^ sb p b := stn_xor p 8 a b
theorem sk_xor (p k a b : Nat) : sk p k (a ^^^ b) = sk p k a ^^^ sk p k b := by
  induction k with
  | zero => rfl
  | succ k ih => show sb p _ = _; rw [ih, sb_xor]; rfl
theorem st_dbl (p y : Nat) : st p (y * 2) = y := by
  unfold st
  rw [if_neg (by omega)]
  omega
theorem stn_shift (p k y : Nat) : stn p k (y * 2 ^ k) = y := by
  induction k generalizing y with
  | zero => simp [stn]
  | succ k ih =>
    show stn p k (st p _) = y
    rw [Nat.pow_succ, ← Nat.mul_assoc, st_dbl, ih]
theorem sb_shift (p y : Nat) : sb p (y * 256) = y := stn_shift p 8 y
theorem sk_s (p k c : Nat) : sk p (k + 1) c = sb p (sk p k c) := rfl
theorem sk_succ (p k c : Nat) : sk p (k + 1) c = sk p k (sb p c) := by
  induction k with
  | zero => rfl
  | succ k ih => show sb p (sk p (k + 1) c) = _; rw [ih]; rfl
theorem sk_add (p j k c : Nat) : sk p (j + k) c = sk p j (sk p k c) := by
  induction j with
  | zero => simp [sk]
  | succ j ih => rw [Nat.succ_add]; show sb p _ = sb p _; rw [ih]
theorem sk_shift (p k y : Nat) : sk p k (y * 256 ^ k) = y := by
  induction k with
  | zero => simp [sk]
  | succ k ih => rw [sk_succ, Nat.pow_succ, ← Nat.mul_assoc, sb_shift, ih]
theorem split_at (c k : Nat) : c = (c % 2 ^ k) ^^^ (c / 2 ^ k * 2 ^ k) := by
  apply Nat.eq_of_testBit_eq
  intro i
  simp only [Nat.testBit_xor, Nat.testBit_mod_two_pow, Nat.testBit_mul_two_pow, Nat.testBit_div_two_pow]
  by_cases h : i < k
  · simp [h, show ¬ k ≤ i by omega]
  · have h' : k ≤ i := by omega
    simp [h, h', show k + (i - k) = i by omega]
theorem sb_split (p c : Nat) : sb p c = sb p (c % 256) ^^^ (c / 256) := by
  have h := split_at c 8
  simp only [show (2 : Nat) ^ 8 = 256 from rfl] at h
  conv => lhs; rw [h]
  rw [sb_xor, sb_shift]
theorem st_lt (p c : Nat) (hp : p < 4294967296) (hc : c < 4294967296) : st p c < 4294967296 := by
  unfold st
  split
  · exact Nat.xor_lt_two_pow (n := 32) (by omega) (by omega)
  · omega
theorem stn_lt (p k c : Nat) (hp : p < 4294967296) (hc : c < 4294967296) : stn p k c < 4294967296 := by
  induction k generalizing c with
  | zero => exact hc
  | succ k ih => exact ih _ (st_lt p c hp hc)
theorem sb_lt (p c : Nat) (hp : p < 4294967296) (hc : c < 4294967296) : sb p c < 4294967296 := stn_lt p 8 c hp hc
theorem sk_lt (p k c : Nat) (hp : p < 4294967296) (hc : c < 4294967296) : sk p k c < 4294967296 := by
  induction k with
  | zero => exact hc
  | succ k ih => exact sb_lt p _ hp ih
theorem run_cons (p c : Nat) (b : UInt8) (l : List UInt8) : run p c (b :: l) = run p (sb p (c ^^^ b.toNat)) l := rfl
theorem run_append (p c : Nat) (l m : List UInt8) : run p c (l ++ m) = run p (run p c l) m := by simp [run]
theorem run_lt (p c : Nat) (l : List UInt8) (hp : p < 4294967296) (hc : c < 4294967296) : run p c l < 4294967296 := by
  induction l generalizing c with
  | nil => exact hc
  | cons b l ih => exact ih _ (sb_lt _ _ hp (Nat.xor_lt_two_pow (n := 32) (by omega) (by have := b.toNat_lt; omega)))
/-- One byte by the table. -/
theorem by_table (p c b : Nat) (hb : b < 256) : sb p ((c % 256) ^^^ b) ^^^ (c / 256) = sb p (c ^^^ b) := by
  have h1 : (c ^^^ b) % 256 = (c % 256) ^^^ b := by
    have h := xor_mod c b 8
    simp only [show (2 : Nat) ^ 8 = 256 from rfl] at h
    rw [h, Nat.mod_eq_of_lt hb]
  have h2 : (c ^^^ b) / 256 = c / 256 := by
    have h := xor_div c b 8
    simp only [show (2 : Nat) ^ 8 = 256 from rfl] at h
    rw [h, Nat.div_eq_of_lt hb, Nat.xor_zero]
  rw [sb_split p (c ^^^ b), h1, h2]
/-- Four bytes: the lowest first. -/
def le4 (a b c d : UInt8) : Nat := a.toNat ^^^ (b.toNat * 256) ^^^ (c.toNat * 65536) ^^^ (d.toNat * 16777216)
theorem sb_step (p c x y : Nat) (h : sb p y = x) : sb p c ^^^ x = sb p (c ^^^ y) := by rw [sb_xor, h]
theorem run_four (p c : Nat) (a b d e : UInt8) : run p c [a, b, d, e] = sk p 4 (c ^^^ le4 a b d e) := by
  simp only [run, List.foldl_cons, List.foldl_nil]
  have e1 : b.toNat = sb p (b.toNat * 256) := (sb_shift _ _).symm
  have e2 : d.toNat = sk p 2 (d.toNat * 65536) := (sk_shift p 2 _).symm
  have e3 : e.toNat = sk p 3 (e.toNat * 16777216) := (sk_shift p 3 _).symm
  have k2 : sb p (c ^^^ a.toNat) ^^^ b.toNat = sb p (c ^^^ a.toNat ^^^ b.toNat * 256) := by
    conv => lhs; rw [e1]
    rw [← sb_xor]
  have k3 : sb p (sb p (c ^^^ a.toNat ^^^ b.toNat * 256)) ^^^ d.toNat = sk p 2 (c ^^^ a.toNat ^^^ b.toNat * 256 ^^^ d.toNat * 65536) := by
    conv => lhs; rw [e2]
    rw [sk_xor p 2]; rfl
  have k4 : sb p (sk p 2 (c ^^^ a.toNat ^^^ b.toNat * 256 ^^^ d.toNat * 65536)) ^^^ e.toNat = sk p 3 (c ^^^ a.toNat ^^^ b.toNat * 256 ^^^ d.toNat * 65536 ^^^ e.toNat * 16777216) := by
    conv => lhs; rw [e3]
    rw [sk_xor p 3]; rfl
  have he : c ^^^ a.toNat ^^^ b.toNat * 256 ^^^ d.toNat * 65536 ^^^ e.toNat * 16777216 = c ^^^ le4 a b d e := by
    unfold le4
    exact xor5 _ _ _ _ _
  rw [k2, k3, k4, he]
  exact (sk_s p 3 _).symm
theorem sk_four (p c : Nat) (hc : c < 4294967296) : sk p 4 c = sk p 4 (c % 256) ^^^ sk p 3 (c / 256 % 256) ^^^ sk p 2 (c / 65536 % 256) ^^^ sk p 1 (c / 16777216) := by
  have h1 := split_at c 8
  have h2 := split_at (c / 256) 8
  have h3 := split_at (c / 65536) 8
  simp only [show (2 : Nat) ^ 8 = 256 from rfl] at h1 h2 h3
  rw [Nat.div_div_eq_div_mul] at h2 h3
  simp only [Nat.reduceMul] at h2 h3
  have s1 : sk p 4 c = sk p 4 (c % 256) ^^^ sk p 3 (c / 256) := by
    conv => lhs; rw [h1]
    rw [sk_xor, sk_succ p 3 (c / 256 * 256), sb_shift]
  have s2 : sk p 3 (c / 256) = sk p 3 (c / 256 % 256) ^^^ sk p 2 (c / 65536) := by
    conv => lhs; rw [h2]
    rw [sk_xor, sk_succ p 2 (c / 65536 * 256), sb_shift]
  have s3 : sk p 2 (c / 65536) = sk p 2 (c / 65536 % 256) ^^^ sk p 1 (c / 16777216) := by
    conv => lhs; rw [h3]
    rw [sk_xor, sk_succ p 1 (c / 16777216 * 256), sb_shift]
  rw [s1, s2, s3]
  simp only [Nat.xor_assoc]
/-- Eight bytes by the eight tables. -/
theorem by_eight (p c : Nat) (b0 b1 b2 b3 b4 b5 b6 b7 : UInt8) (hp : p < 4294967296) (hc : c < 4294967296) (x : Nat) (hx : x = c ^^^ le4 b0 b1 b2 b3) (hx2 : x < 4294967296) :
    sk p 1 b7.toNat ^^^ sk p 2 b6.toNat ^^^ sk p 3 b5.toNat ^^^ sk p 4 b4.toNat ^^^ sk p 5 (x / 16777216) ^^^ sk p 6 (x / 65536 % 256) ^^^ sk p 7 (x / 256 % 256) ^^^ sk p 8 (x % 256) = run p c [b0, b1, b2, b3, b4, b5, b6, b7] := by
  rw [show [b0, b1, b2, b3, b4, b5, b6, b7] = [b0, b1, b2, b3] ++ [b4, b5, b6, b7] from rfl, run_append, run_four, run_four, ← hx, sk_xor]
  have a44 : ∀ z, sk p 4 (sk p 4 z) = sk p 8 z := fun z => (sk_add p 4 4 z).symm
  have a43 : ∀ z, sk p 4 (sk p 3 z) = sk p 7 z := fun z => (sk_add p 4 3 z).symm
  have a42 : ∀ z, sk p 4 (sk p 2 z) = sk p 6 z := fun z => (sk_add p 4 2 z).symm
  have a41 : ∀ z, sk p 4 (sk p 1 z) = sk p 5 z := fun z => (sk_add p 4 1 z).symm
  have f1 : sk p 4 (sk p 4 x) = sk p 8 (x % 256) ^^^ sk p 7 (x / 256 % 256) ^^^ sk p 6 (x / 65536 % 256) ^^^ sk p 5 (x / 16777216) := by
    rw [sk_four p x hx2, sk_xor, sk_xor, sk_xor, a44, a43, a42, a41]
  have b1 : sk p 4 (b5.toNat * 256) = sk p 3 b5.toNat := (sk_add p 3 1 _).trans (by rw [show sk p 1 (b5.toNat * 256) = b5.toNat from sk_shift p 1 _])
  have b2' : sk p 4 (b6.toNat * 65536) = sk p 2 b6.toNat := (sk_add p 2 2 _).trans (by rw [show sk p 2 (b6.toNat * 65536) = b6.toNat from sk_shift p 2 _])
  have b3' : sk p 4 (b7.toNat * 16777216) = sk p 1 b7.toNat := (sk_add p 1 3 _).trans (by rw [show sk p 3 (b7.toNat * 16777216) = b7.toNat from sk_shift p 3 _])
  have f2 : sk p 4 (le4 b4 b5 b6 b7) = sk p 4 b4.toNat ^^^ sk p 3 b5.toNat ^^^ sk p 2 b6.toNat ^^^ sk p 1 b7.toNat := by
    unfold le4
    rw [sk_xor, sk_xor, sk_xor, b1, b2', b3']
  rw [f1, f2]
  generalize sk p 1 b7.toNat = t1
  generalize sk p 2 b6.toNat = t2
  generalize sk p 3 b5.toNat = t3
  generalize sk p 4 b4.toNat = t4
  generalize sk p 5 (x / 16777216) = t5
  generalize sk p 6 (x / 65536 % 256) = t6
  generalize sk p 7 (x / 256 % 256) = t7
  generalize sk p 8 (x % 256) = t8
  ac_rfl
end Go.Proofs.Ythgpmocbpofnhaa
