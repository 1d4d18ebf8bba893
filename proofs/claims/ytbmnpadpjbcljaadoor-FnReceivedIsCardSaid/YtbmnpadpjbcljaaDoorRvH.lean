/- The queue of numbers that came, in memory; the contract of hasChunk. Condition: the number is at most 1001 behind the first. -/
import Derived.Test.YtbmnpadpjbcljaaDoorRvS
namespace Go.Proofs.YtbmnpadpjbcljaaDoor
open Go.RowKit Go.Lib

/-- Words of 64 bits as cells. -/
def u64s (ws : List Nat) : List Value := ws.map fun (x : Nat) => .int .u64 (x : Int)
theorem u64s_get {ws : List Nat} {i x : Nat} (h : ws[i]? = some x) : (u64s ws)[i]? = some (.int .u64 (x : Int)) := by simp [u64s, h]
theorem u64s_set (ws : List Nat) (i x : Nat) : (u64s ws).set i (.int .u64 (x : Int)) = u64s (ws.set i x) := by simp [u64s, List.map_set]

def qcells (first c top n gm : Nat) (du : Value) : List Value := [.int .u32 (tsnOf first top : Nat), .int .i64 (n : Int), .slice (some ⟨gm, 0, none⟩) 625 625, du, .int .u32 40000, .int .u32 (tsnOf first c : Nat)]

/-- What f may tell: numbers behind c, up to top, at most 1000. -/
structure QF (c top n : Nat) (f : Nat → Bool) : Prop where
  n : n = cnt f
  lo : ∀ e, f e = true → c < e ∧ e ≤ top
  top : top ≤ 1000
  c : c ≤ 1000

theorem QF.none {c top n : Nat} {f : Nat → Bool} (h : QF c top n f) {d : Nat} (h1 : n = 0 ∨ d ≤ c ∨ top < d) : f d = false := by
  cases hf : f d with
  | false => rfl
  | true =>
    obtain ⟨a, b⟩ := h.lo d hf
    have ht := h.top
    rcases h1 with h0 | h0 | h0
    · have := cnt_zero (f := f) (by rw [← h.n]; exact h0) (d := d) (by omega)
      rw [hf] at this; exact this
    · omega
    · omega

theorem wrap_pow {o : Nat} (ho : o < 64) : IntKind.u64.wrap (2 ^ o) = ((2 ^ o : Nat) : Int) := by
  have h : 2 ^ o < 2 ^ 64 := Nat.pow_lt_pow_right (by decide) ho
  rw [show (2 : Int) ^ o = ((2 ^ o : Nat) : Int) by rw [Int.natCast_pow]; rfl, IntKind.wrap_u64]
  generalize 2 ^ o = p at h
  omega
theorem and_pow (x o : Nat) : x &&& 2 ^ o = if x.testBit o then 2 ^ o else 0 := by
  apply Nat.eq_of_testBit_eq
  intro i
  rw [Nat.testBit_and, Nat.testBit_two_pow]
  by_cases h : o = i
  · subst h
    cases hx : x.testBit o <;> simp
  · cases hx : x.testBit o <;> simp [h, Nat.testBit_two_pow]
theorem bit_test {x o : Nat} (hx : x < 18446744073709551616) (ho : o < 64) : (bits BinOp.and IntKind.u64 (x : Int) (IntKind.u64.wrap (2 ^ o)) != 0) = x.testBit o := by
  have h : 2 ^ o < 2 ^ 64 := Nat.pow_lt_pow_right (by decide) ho
  have hp : 0 < 2 ^ o := Nat.two_pow_pos o
  rw [wrap_pow ho, bits_and_u64_nat x _ hx (by omega), and_pow]
  generalize 2 ^ o = p at hp
  cases x.testBit o
  · rfl
  · simp
    omega

set_option maxRecDepth 20000 in
theorem haschunk_any (first c top n gq gm d : Nat) (f : Nat → Bool) (du : Value) (ws : List Nat) (t tm : TypeId) (w : World) (hf : first < 4294967296) (hr : Row w gq t (qcells first c top n gm du)) (hm : Row w gm tm (u64s ws)) (hk : MaskOk first ws f) (hq : QF c top n f) (h1 : 1 ≤ d) (h2 : d ≤ 1001) :
    Calls Tryd.prog 19 #[.pointer (some ⟨gq, 0, none⟩), .int .u32 (tsnOf first d : Nat)] w fun e w' => e = .returned (.bool (f d)) ∧ w = w' := by
  have htop := hq.top
  have hc := hq.c
  have k0 : w.cell? ⟨gq, 0, none⟩ = some (.int .u32 (tsnOf first top : Nat)) := by rw [hr.cell]; rfl
  have k1 : w.cell? ⟨gq, 1, none⟩ = some (.int .i64 (n : Int)) := by rw [hr.cell]; rfl
  have k2 : w.cell? ⟨gq, 2, none⟩ = some (.slice (some ⟨gm, 0, none⟩) 625 625) := by rw [hr.cell]; rfl
  have k5 : w.cell? ⟨gq, 5, none⟩ = some (.int .u32 (tsnOf first c : Nat)) := by rw [hr.cell]; rfl
  by_cases h0 : n = 0
  · rw [hq.none (.inl h0)]
    subst h0
    go_enter Tryd.func19, Tryd.ntmps19
    go_wp2
    go_ret
    exact ⟨rfl, rfl⟩
  have hb0 : ((n : Int) == 0) = false := by rw [beq_eq_false_iff_ne]; omega
  have C1 := Lib.hid (sna32LTE_near first d c w hf (by omega) (by omega))
  by_cases hdc : d ≤ c
  · rw [hq.none (.inr (.inl hdc))]
    rw [decide_eq_true hdc] at C1
    go_enter Tryd.func19, Tryd.ntmps19
    go_wp2_with fail
    refine C1.out.mono ?_
    rintro e w' ⟨rfl, rfl⟩
    go_wp2
    go_ret
    exact ⟨rfl, rfl⟩
  rw [decide_eq_false hdc] at C1
  have C2 := Lib.hid (sna32GT_near first d top w hf (by omega) (by omega))
  by_cases hdt : top < d
  · rw [hq.none (.inr (.inr hdt))]
    rw [decide_eq_true hdt] at C2
    go_enter Tryd.func19, Tryd.ntmps19
    go_wp2_with fail
    refine C1.out.mono ?_
    rintro e w' ⟨rfl, rfl⟩
    go_wp2_with fail
    refine C2.out.mono ?_
    rintro e w' ⟨rfl, rfl⟩
    go_wp2
    go_ret
    exact ⟨rfl, rfl⟩
  rw [decide_eq_false hdt] at C2
  obtain ⟨hw, hx⟩ := hk.word (tsnOf first d)
  have kw : w.cell? ⟨gm, wix (tsnOf first d), none⟩ = some (.int .u64 (ws.getD (wix (tsnOf first d)) 0 : Nat)) := by rw [hm.cell]; exact u64s_get hw
  have hbit := hk.bits d h1 (by omega)
  unfold bitAt at hbit
  have hi := wix_lt (tsnOf first d)
  have ho := wof_lt (tsnOf first d)
  have ht := tsnOf_lt first d
  have e1 : ((tsnOf first d : Nat) : Int) / 64 % 625 = (wix (tsnOf first d) : Nat) := by unfold wix; omega
  have e2 : ((tsnOf first d : Nat) : Int) % 64 = (wof (tsnOf first d) : Nat) := by unfold wof; omega
  generalize ws.getD (wix (tsnOf first d)) 0 = x at kw hx hbit
  generalize wix (tsnOf first d) = i at kw hi e1
  generalize wof (tsnOf first d) = o at hbit ho e2
  generalize tsnOf first d = td at C1 C2 ht e1 e2 ⊢
  rw [← hbit]
  go_enter Tryd.func19, Tryd.ntmps19
  go_wp2_with fail
  refine C1.out.mono ?_
  rintro e w' ⟨rfl, rfl⟩
  go_wp2_with fail
  refine C2.out.mono ?_
  rintro e w' ⟨rfl, rfl⟩
  go_wp2_with fail
  go_ret
  exact ⟨ret_bool (bit_test hx ho), rfl⟩
end Go.Proofs.YtbmnpadpjbcljaaDoor
