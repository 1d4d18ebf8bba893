/- Sets of chunks in memory; the contracts of hasTSN and isComplete. Conditions: the numbers lie near each other. -/
import Derived.Test.YtnlkmcbhhljajaaDoorRaC
namespace Go.Proofs.YtnlkmcbhhljajaaDoor
open Go.RowKit Go.Lib

/-- A piece: how far its number is from the first one, its message, whether it begins and ends it, its bytes. -/
structure Pc where
  t : Nat
  k : Nat
  b : Bool
  e : Bool
  u : List UInt8
/-- A piece in memory: the chunk's block. -/
abbrev Ck := Nat × Pc
def ckr (c : Ck) : Ref := (c.1, c.2.t)
def ckp (c : Ck) : Value := rp (ckr c)
def ChunkAt (first st : Nat) (w0 w : World) (c : Ck) : Prop :=
  ∃ A n cap, Row w c.1 68 (ckc c.2.b c.2.e (tsnOf first c.2.t) st c.2.k (50 + c.2.k) (.slice A n cap)) ∧ Sl w0 (.slice A n cap) c.2.u
/-- A set of chunks: its block, its message, its row's value, its chunks. -/
structure MSet where
  sb : Nat
  k : Nat
  rv : Value
  cs : List Ck
structure SetAt (first st B : Nat) (w0 w : World) (s : MSet) : Prop where
  row : Row w s.sb 78 [.int .u16 (s.k : Int), .int .u32 ((50 + s.k : Nat) : Int), s.rv]
  own : w.ownsRow B 48 1 s.rv s.cs.length (s.cs.map ckp)
  cks : ∀ c ∈ s.cs, ChunkAt first st w0 w c

theorem ChunkAt.tsn {first st : Nat} {w0 w : World} {c : Ck} (h : ChunkAt first st w0 w c) : w.cell? ⟨c.1, 8, none⟩ = some (.int .u32 (tsnOf first c.2.t : Nat)) ∧ w.cell? ⟨c.1, 5, none⟩ = some (.bool c.2.b) ∧ w.cell? ⟨c.1, 6, none⟩ = some (.bool c.2.e) := by
  obtain ⟨A, n, cap, hr, _⟩ := h
  simp only [hr.cell]
  exact ⟨rfl, rfl, rfl⟩
theorem Row.three {w : World} {g : Nat} {t : TypeId} {a0 a1 a2 : Value} (h : Row w g t [a0, a1, a2]) : w.cell? ⟨g, 0, none⟩ = some a0 ∧ w.cell? ⟨g, 1, none⟩ = some a1 ∧ w.cell? ⟨g, 2, none⟩ = some a2 := by
  simp only [h.cell]
  exact ⟨rfl, rfl, rfl⟩

theorem tsn_eq {first a b : Nat} (ha : a ≤ 1000000) (hb : b ≤ 1000000) (h : tsnOf first a = tsnOf first b) : a = b := by unfold tsnOf at h; omega
theorem tsn_next {first a : Nat} : IntKind.u32.wrap (((tsnOf first a : Nat) : Int) + 1) = (tsnOf first (a + 1) : Nat) := by
  have e : tsnOf first (a + 1) = (tsnOf first a + 1) % 4294967296 := by unfold tsnOf; omega
  rw [e]
  simp [IntKind.wrap, IntKind.bits, IntKind.signed]

set_option maxRecDepth 20000 in
theorem hastsn_any (first st B : Nat) (w0 : World) (s : MSet) (t : Nat) (w : World) (h : SetAt first st B w0 w s) (hl : s.cs.length ≤ 1000000) (ht : t ≤ 1000000) (hb : ∀ c ∈ s.cs, c.2.t ≤ 1000000 ∧ c.2.t ≠ t) :
    Calls Tryd.prog 32 #[.pointer (some ⟨s.sb, 0, none⟩), .int .u32 (tsnOf first t : Nat)] w fun z w' => z = .returned (.bool false) ∧ w = w' := by
  obtain ⟨k0, k1, k2⟩ := Row.three h.row
  obtain ⟨n, hn⟩ : ∃ n, n = s.cs.length := ⟨_, rfl⟩
  have hr := Rd.of_own h.own
  rw [← hn] at hr hl
  obtain ⟨A, cp, hv, hnc, hcm, hl0, h0, hc⟩ := hr
  have HC := Lib.hid hc
  have Hn := Lib.hid hn
  have HK := Lib.hid h.cks
  have HB := Lib.hid hb
  rw [hv] at k2
  generalize s.sb = g at k0 k1 k2 ⊢
  generalize s.cs = cs at HC Hn HK HB
  clear h hc h0 hl0 hn hv hb k0 k1
  unfold maxLen at hcm
  go_enter Tryd.func32, Tryd.ntmps32
  go_wp2_with fail
  go_loopw [12] (fun i wr => ∃ j : Nat, j ≤ n ∧ i = .int .i64 (j : Int) ∧ wr = w) (fun i _ => n - (intOf i).toNat)
  case atStart => exact ⟨0, Nat.zero_le _, rfl, rfl⟩
  case round =>
    obtain ⟨j, hj, rfl, rfl⟩ := hrel
    by_cases hlt : j < n
    · obtain ⟨g1, o, rfl, hg⟩ := HC.out (by omega)
      have hlk : j < cs.length := by have := Hn.out; omega
      have hx : cs[j]? = some cs[j] := List.getElem?_eq_getElem hlk
      have hm := List.getElem_mem hlk
      generalize cs[j] = x at hx hm
      have hcx := hg j (ckp x) (by simp [hx])
      obtain ⟨t1, _, _⟩ := (HK.out x hm).tsn
      obtain ⟨b1, b2⟩ := HB.out x hm
      have hne : ((tsnOf first x.2.t : Nat) : Int) ≠ ((tsnOf first t : Nat) : Int) := fun e => b2 (tsn_eq (first := first) b1 ht (by omega))
      unfold ckp rp ckr at hcx
      simp only at hcx
      generalize tsnOf first x.2.t = a at t1 hne
      generalize tsnOf first t = b at hne
      generalize x.1 = gx at t1 hcx
      have hne' : ((a : Int) == (b : Int)) = false := by rw [beq_eq_false_iff_ne]; exact hne
      clear hx hm hg
      go_wp2
      exact ⟨⟨j + 1, by omega, by go_num, by trivial⟩, by simp [intOf]; omega⟩
    · obtain rfl : j = n := by omega
      go_wp2
      go_ret
      exact ⟨rfl, rfl⟩
end Go.Proofs.YtnlkmcbhhljajaaDoor
