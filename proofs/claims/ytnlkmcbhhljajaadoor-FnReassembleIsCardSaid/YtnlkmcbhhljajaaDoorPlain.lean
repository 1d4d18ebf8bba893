/- Plain mathematics on bytes and numbers, with no program in sight: numbers written with the highest byte first, and read; chunks. No condition. -/
namespace Go.Proofs.YtnlkmcbhhljajaaDoor

/-- The k low bytes of n, the highest first. -/
def be : Nat → Nat → List UInt8
  | 0, _ => []
  | k + 1, n => UInt8.ofNat (n / 256 ^ k) :: be k n
theorem be_length (k n : Nat) : (be k n).length = k := by
  induction k with
  | zero => rfl
  | succ k ih => simp [be, ih]
theorem be_two (n : Nat) : be 2 n = [UInt8.ofNat (n / 256), UInt8.ofNat n] := by simp [be]
theorem be_four (n : Nat) : be 4 n = [UInt8.ofNat (n / 16777216), UInt8.ofNat (n / 65536), UInt8.ofNat (n / 256), UInt8.ofNat n] := by simp [be]
/-- The number that bytes spell, the highest first. -/
def ne : List UInt8 → Nat := fun l => l.foldl (fun a b => a * 256 + b.toNat) 0
theorem ne_two (a b : UInt8) : ne [a, b] = a.toNat * 256 + b.toNat := by simp [ne]
theorem ne_four (a b c d : UInt8) : ne [a, b, c, d] = ((a.toNat * 256 + b.toNat) * 256 + c.toNat) * 256 + d.toNat := by simp [ne]
theorem ne_be_two (n : Nat) (h : n < 65536) : ne (be 2 n) = n := by
  rw [be_two, ne_two]; simp [UInt8.toNat_ofNat']; omega
theorem ne_be_four (n : Nat) (h : n < 4294967296) : ne (be 4 n) = n := by
  rw [be_four, ne_four]; simp [UInt8.toNat_ofNat']; omega

/-- A chunk: type, flags, length, value. -/
def chunk (typ flags : Nat) (value : List UInt8) : List UInt8 := [UInt8.ofNat typ, UInt8.ofNat flags] ++ be 2 (4 + value.length) ++ value
theorem chunk_length (typ flags : Nat) (value : List UInt8) : (chunk typ flags value).length = 4 + value.length := by simp [chunk, be_length]; omega
/-- How many zeros fill up to a whole word. -/
def padN (n : Nat) : Nat := (4 - n % 4) % 4
def padded (l : List UInt8) : List UInt8 := l ++ List.replicate (padN l.length) 0
theorem padN_lt (n : Nat) : padN n < 4 := by unfold padN; omega
theorem chunk_drop (typ flags : Nat) (value : List UInt8) : (chunk typ flags value).drop 4 = value := by simp [chunk, be_two]
theorem chunk_eq (typ flags : Nat) (value : List UInt8) : chunk typ flags value = UInt8.ofNat typ :: UInt8.ofNat flags :: UInt8.ofNat ((4 + value.length) / 256) :: UInt8.ofNat (4 + value.length) :: value := by
  simp [chunk, be_two]
end Go.Proofs.YtnlkmcbhhljajaaDoor
