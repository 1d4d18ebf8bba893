/- Contracts of simpleUpdate, simplePopulateTable and slicingMakeTable at Castagnoli's polynomial. Conditions: the numbers fit 32 bits. -/
import Derived.Test.YthgpmocbpofnhaaCrcW
namespace Go.Proofs.Ythgpmocbpofnhaa
open Go.RowKit Go.Lib

set_option maxRecDepth 20000 in
theorem simple_any (cr : Nat) (g0 : Nat) (t : TypeId) (F : Nat → Nat) (v : Value) (l : List UInt8) (w : World) (hcr : cr < 4294967296) (hr : Row w g0 t (cellsF F)) (hF : ∀ x, x < 256 → F x = sb pl x) (h : Sl w v l) :
    Calls Try.prog 15 #[.int .u32 (cr : Int), .pointer (some ⟨g0, 0, none⟩), v] w (CrcIs w (inv (run pl (inv cr) l))) := by
  obtain ⟨n, hn⟩ : ∃ n, n = l.length := ⟨_, rfl⟩
  obtain ⟨A, c, rfl, hnc, hcm, hl0, h0, hc⟩ := h
  rw [← hn] at hnc hc ⊢
  have HC := Lib.hid hc
  have Hn := Lib.hid hn
  have Hr := Lib.hid hr
  have HF := Lib.hid hF
  have hi := bits_inv cr hcr
  have hil := inv_lt cr hcr
  obtain ⟨s0, hs0⟩ : ∃ s0, s0 = inv cr := ⟨_, rfl⟩
  rw [← hs0] at hi hil ⊢
  clear hc h0 hl0 hn hr hF hs0
  unfold maxLen at hcm
  go_enter Try.func15, Try.ntmps15
  have hi' : bits .xor .u32 IntKind.u32.max (cr : Int) = (s0 : Int) := hi
  go_wp2
  clear hi hi'
  go_loop [0, 13] (fun o i => ∃ (k x : Nat), k ≤ n ∧ i = .int .i64 k ∧ o = .int .u32 (x : Int) ∧ x < 4294967296 ∧ Hid (x = run pl s0 (l.take k))) (fun _ i => n - (intOf i).toNat)
  case atStart => exact ⟨0, s0, Nat.zero_le _, rfl, rfl, hil, Lib.hid rfl⟩
  case round =>
    obtain ⟨k, x, hk, rfl, rfl, hx, Hx⟩ := hrel
    by_cases hlt : k < n
    · obtain ⟨g, o, rfl, hg⟩ := HC.out (by omega)
      have hlk : k < l.length := by have := Hn.out; omega
      have hb : l[k]? = some l[k] := List.getElem?_eq_getElem hlk
      generalize l[k] = b at hb
      have hcell : w.cell? ⟨g, o + k, none⟩ = some (.int .u8 (b.toNat : Int)) := hg k _ (by simp [bvs, hb, bv])
      have hb256 : b.toNat < 256 := b.toNat_lt
      obtain ⟨y, hy⟩ : ∃ y, y = (x % 256) ^^^ b.toNat := ⟨_, rfl⟩
      have hy8 : y < 256 := by rw [hy]; exact Nat.xor_lt_two_pow (n := 8) (by omega) (by omega)
      have h8 : bits .xor .u8 ((x : Int) % 256) (b.toNat : Int) = (y : Int) := by
        have e : ((x : Int) % 256) = ((x % 256 : Nat) : Int) := by omega
        rw [hy, e]
        exact u8_xor_nat _ _ (by omega) (by omega)
      have hty : w.cell? ⟨g0, y, none⟩ = some (.int .u32 (sb pl y : Int)) := by rw [Hr.out.cellF y (by omega), HF.out y hy8]
      have hsl := sb_lt pl y pl_lt (by omega)
      obtain ⟨x', hx'⟩ : ∃ x', x' = sb pl (x ^^^ b.toNat) := ⟨_, rfl⟩
      have hx'l : x' < 4294967296 := by rw [hx']; exact sb_lt _ _ pl_lt (xor_lt32 _ _ hx (by omega))
      have hxr : bits .xor .u32 (sb pl y : Int) ((x : Int) / 256) = (x' : Int) := by
        have h := u32_xor_nat (sb pl y) (x / 256) hsl (by omega)
        have e : (x : Int) / 256 = ((x / 256 : Nat) : Int) := by omega
        rw [e, h, hx', hy, by_table pl x b.toNat hb256]
      have Hx' : Hid (x' = run pl s0 (l.take (k + 1))) := by
        show _ = _
        rw [List.take_add_one, hb, Option.toList_some, run_append, ← Hx.out, hx']
        rfl
      generalize sb pl y = ty at *
      clear hb hy hg hx'
      generalize b.toNat = bn at *
      go_wp2
      go_round
      case rel => exact ⟨k + 1, x', by omega, by go_num, rfl, hx'l, Hx'⟩
      case measure => simp [intOf]; omega
    · obtain rfl : k = n := by omega
      go_wp2
      go_ret
      refine ⟨ret_int ?_, rfl⟩
      show bits .xor .u32 4294967295 (x : Int) = _
      rw [bits_inv x hx, Hx.out, Hn.out, List.take_length]

/-- A table was filled: the first 256 words. -/
def Filled (w : World) (g : Nat) (t : TypeId) (e : Ending) (w' : World) : Prop := ∃ F, e = .returned (.tuple #[]) ∧ Row w' g t (cellsF F) ∧ (∀ x, x < 256 → F x = sb pl x) ∧ w.grownBy w' (some g)

set_option maxRecDepth 20000 in
theorem populate_any (g : Nat) (t : TypeId) (F0 : Nat → Nat) (w : World) (hr : Row w g t (cellsF F0)) :
    Calls Try.prog 16 #[.int .u32 2197175160, .pointer (some ⟨g, 0, none⟩)] w (Filled w g t) := by
  have Hr := Lib.hid hr
  clear hr
  go_enter Try.func16, Try.ntmps16
  go_wp2
  go_loopw [4] (fun i wr => ∃ (k : Nat) (F : Nat → Nat), k ≤ 256 ∧ i = .int .i64 k ∧ Hid (Row wr g t (cellsF F)) ∧ Hid (∀ x, x < k → F x = sb pl x) ∧ Hid (w.grownBy wr (some g))) (fun i _ => 256 - (intOf i).toNat)
  case atStart => exact ⟨0, F0, by omega, rfl, Hr, Lib.hid (fun x hx => absurd hx (by omega)), Lib.hid (only_refl _ _)⟩
  case round =>
    obtain ⟨k, F, hk, rfl, HR, HF, HG⟩ := hrel
    obtain ⟨wo, rfl⟩ : ∃ wo : World, wo = wr := ⟨_, rfl⟩
    by_cases hlt : k < 256
    · have hcv : IntKind.u32.wrap (k : Int) = (k : Int) := by simp [IntKind.wrap, IntKind.bits, IntKind.signed]; omega
      go_wp2
      clear hcv
      go_loop [5, 6] (fun o j => ∃ (m z : Nat), m ≤ 8 ∧ j = .int .i64 m ∧ o = .int .u32 (z : Int) ∧ z < 4294967296 ∧ Hid (z = stn pl m k)) (fun _ j => 8 - (intOf j).toNat)
      case atStart => exact ⟨0, k, by omega, rfl, rfl, by omega, Lib.hid rfl⟩
      case round =>
        obtain ⟨m, z, hm, rfl, rfl, hz, Hz⟩ := hrel
        by_cases hm8 : m < 8
        · have Hz' : Hid (st pl z = stn pl (m + 1) k) := by show _ = _; rw [stn_succ, ← Hz.out]
          have hs := st_lt pl z pl_lt hz
          by_cases ho : z % 2 = 1
          · have ha : bits .and .u32 (z : Int) 1 = 1 := by rw [bit_odd z hz, ho]; rfl
            have hxr : bits .xor .u32 ((z : Int) / 2) 2197175160 = ((st pl z : Nat) : Int) := by
              have h := u32_xor_nat (z / 2) pl (by omega) pl_lt
              rw [show ((pl : Nat) : Int) = 2197175160 from rfl] at h
              rw [show (z : Int) / 2 = ((z / 2 : Nat) : Int) by omega, h]
              unfold st
              rw [if_pos ho]
            go_wp2
            go_round
            case rel => exact ⟨m + 1, st pl z, by omega, by go_num, rfl, hs, Hz'⟩
            case measure => simp [intOf]; omega
          · have ha : bits .and .u32 (z : Int) 1 = 0 := by rw [bit_odd z hz, show z % 2 = 0 by omega]; rfl
            have hxr : Hid ((z : Int) / 2 = ((st pl z : Nat) : Int)) := by
              show _ = _
              unfold st
              rw [if_neg ho]
              omega
            go_wp2
            go_round
            case rel => exact ⟨m + 1, st pl z, by omega, by go_num, by rw [hxr.out], hs, Hz'⟩
            case measure => simp [intOf]; omega
        · obtain rfl : m = 8 := by omega
          have y := HR.out.cellF k (by omega)
          have f := HR.out.frozen k
          have hR' := HR.out.set k (.int .u32 (z : Int))
          rw [cellsF_set F k z (by omega)] at hR'
          have HR' := Lib.hid hR'
          have HF' : Hid (∀ x, x < k + 1 → (fun j => if j = k then z else F j) x = sb pl x) := by
            intro x hx
            by_cases e : x = k
            · subst e; simp only [if_true]; exact Hz.out
            · simp only [if_neg e]; exact HF.out x (by omega)
          have HG' := Lib.hid (only_set HG.out k (.int .u32 (z : Int)))
          clear hR'
          generalize F k = u0 at y
          go_wp2
          go_roundw
          case rel => exact ⟨k + 1, _, by omega, by go_num, HR', HF', HG'⟩
          case measure => simp [intOf]; omega
    · obtain rfl : k = 256 := by omega
      go_wp2
      go_end0
      exact ⟨F, rfl, HR.out, HF.out, HG.out⟩

theorem tab_zero : (Try.prog.info? 39).map (fun i => i.zero.map (fun z => z.cells.toList)) = some (some (cellsF fun _ => 0)) := by
  rw [cellsF_zero]
  kernel_rfl

/-- All eight tables were made. -/
def Made (w : World) (e : Ending) (w' : World) : Prop := ∃ g F, e = .returned (.pointer (some ⟨g, 0, none⟩)) ∧ w.heap.size ≤ g ∧ Row w' g 39 (cellsF F) ∧ (∀ a x, a < 8 → x < 256 → F (a * 256 + x) = sk pl (a + 1) x) ∧ Below w.heap.size w w'

theorem good_step {F : Nat → Nat} {i j z : Nat} (hj1 : 1 ≤ j) (hj8 : j < 8) (hi : i < 256) (hz : z = sk pl (j + 1) i) (h0 : ∀ x, x < 256 → F x = sb pl x) (h1 : ∀ a x, 1 ≤ a → a < 8 → x < 256 → (x < i ∨ (x = i ∧ a < j)) → F (a * 256 + x) = sk pl (a + 1) x) :
    (∀ x, x < 256 → (fun q => if q = j * 256 + i then z else F q) x = sb pl x) ∧ (∀ a x, 1 ≤ a → a < 8 → x < 256 → (x < i ∨ (x = i ∧ a < j + 1)) → (fun q => if q = j * 256 + i then z else F q) (a * 256 + x) = sk pl (a + 1) x) := by
  refine ⟨fun x hx => ?_, fun a x ha ha8 hx hc => ?_⟩
  · simp only []
    rw [if_neg (by omega)]
    exact h0 x hx
  · simp only []
    by_cases e : a * 256 + x = j * 256 + i
    · have e1 : a = j := by omega
      have e2 : x = i := by omega
      rw [if_pos e, hz, e1, e2]
    · rw [if_neg e]
      exact h1 a x ha ha8 hx (by omega)

set_option maxRecDepth 20000 in
theorem maketable_any (w : World) :
    Calls Try.prog 13 #[.int .u32 2197175160] w (Made w) := by
  go_enter Try.func13, Try.ntmps13
  go_wp2_with (refine wpList_alloc_row rfl _ rfl _ tab_zero ?_)
  intro w1 hr1 hb1
  have Hr1 := Lib.hid hr1
  have Hb1 := Lib.hid hb1
  clear hr1 hb1
  go_wp2_with fail
  refine (populate_any w.heap.size _ _ _ Hr1.out).mono ?_
  rintro e w2 ⟨F2, rfl, hr2, hF2, hg2⟩
  have Hr2 := Lib.hid hr2
  have HF2 := Lib.hid hF2
  have Hb2 := Lib.hid (below_only Hb1.out Hb1.out.size hg2 (Nat.le_refl _))
  clear hr2 hF2 hg2
  go_wp2
  go_loopw [4] (fun i wr => ∃ (k : Nat) (F : Nat → Nat), k ≤ 256 ∧ i = .int .i64 k ∧ Hid (Row wr w.heap.size 39 (cellsF F)) ∧ Hid (∀ x, x < 256 → F x = sb pl x) ∧ Hid (∀ a x, 1 ≤ a → a < 8 → x < 256 → (x < k ∨ (x = k ∧ a < 1)) → F (a * 256 + x) = sk pl (a + 1) x) ∧ Hid (Below w.heap.size w wr)) (fun i _ => 256 - (intOf i).toNat)
  case atStart => exact ⟨0, F2, by omega, rfl, Hr2, HF2, Lib.hid (fun a x h1 h2 h3 h4 => absurd h4 (by omega)), Hb2⟩
  case round =>
    obtain ⟨k, F, hk, rfl, HR, HF, HG, HB⟩ := hrel
    by_cases hlt : k < 256
    · have y := HR.out.cellF k (by omega)
      rw [HF.out k hlt] at y
      have hs := sb_lt pl k pl_lt (by omega)
      obtain ⟨c0, hc0⟩ : ∃ c0, c0 = sb pl k := ⟨_, rfl⟩
      rw [← hc0] at y hs
      have Hc0 := Lib.hid hc0
      clear hc0
      go_wp2
      obtain ⟨wo, rfl⟩ : ∃ wo : World, wo = wr := ⟨_, rfl⟩
      go_loopw [5, 6] (fun o j wr => ∃ (m z : Nat) (F : Nat → Nat), 1 ≤ m ∧ m ≤ 8 ∧ j = .int .i64 m ∧ o = .int .u32 (z : Int) ∧ z < 4294967296 ∧ Hid (z = sk pl m k) ∧ Hid (Row wr w.heap.size 39 (cellsF F)) ∧ Hid (∀ x, x < 256 → F x = sb pl x) ∧ Hid (∀ a x, 1 ≤ a → a < 8 → x < 256 → (x < k ∨ (x = k ∧ a < m)) → F (a * 256 + x) = sk pl (a + 1) x) ∧ Hid (Below w.heap.size w wr)) (fun _ j _ => 8 - (intOf j).toNat)
      case atStart => exact ⟨1, c0, F, by omega, by omega, rfl, rfl, hs, Hc0, HR, HF, HG, HB⟩
      case round =>
        clear y hs
        obtain ⟨m, z, F', hm1, hm, rfl, rfl, hz, Hz, HR', HF', HG', HB'⟩ := hrel
        by_cases hm8 : m < 8
        · have ha : bits .and .u32 (z : Int) 255 = ((z % 256 : Nat) : Int) := bit_255 z hz
          have y1 := HR'.out.cellF (z % 256) (by omega)
          rw [HF'.out _ (by omega)] at y1
          have hsl := sb_lt pl (z % 256) pl_lt (by omega)
          have hz2 := sb_lt pl z pl_lt hz
          have hxr : bits .xor .u32 (sb pl (z % 256) : Int) ((z : Int) / 256) = ((sb pl z : Nat) : Int) := by
            have h := u32_xor_nat (sb pl (z % 256)) (z / 256) hsl (by omega)
            have e : (z : Int) / 256 = ((z / 256 : Nat) : Int) := by omega
            rw [e, h, ← sb_split]
          have Hz' : Hid (sb pl z = sk pl (m + 1) k) := by show _ = _; rw [Hz.out]; rfl
          have y2 := HR'.out.cellF (m * 256 + k) (by omega)
          have f2 := HR'.out.frozen (m * 256 + k)
          have hR' := HR'.out.set (m * 256 + k) (.int .u32 ((sb pl z : Nat) : Int))
          rw [cellsF_set F' _ _ (by omega)] at hR'
          have HR2 := Lib.hid hR'
          obtain ⟨g1, g2⟩ := good_step hm1 hm8 hlt Hz'.out HF'.out HG'.out
          have G1 := Lib.hid g1
          have G2 := Lib.hid g2
          have HB2 := Lib.hid (below_only HB'.out HB'.out.size (only_set (only_refl _ _) (m * 256 + k) (.int .u32 ((sb pl z : Nat) : Int))) (Nat.le_refl _))
          clear hR' g1 g2
          generalize sb pl (z % 256) = u1 at *
          generalize sb pl z = z2 at *
          generalize F' (m * 256 + k) = u2 at *
          obtain ⟨zl, hzl⟩ : ∃ zl, zl = z % 256 := ⟨_, rfl⟩
          rw [← hzl] at ha y1
          have hzl8 : zl < 256 := by omega
          clear hzl
          go_wp2
          go_roundw
          case rel => exact ⟨m + 1, z2, _, by omega, by omega, by go_num, rfl, hz2, Hz', HR2, G1, G2, HB2⟩
          case measure => simp [intOf]; omega
        · obtain rfl : m = 8 := by omega
          have G2 : Hid (∀ a x, 1 ≤ a → a < 8 → x < 256 → (x < k + 1 ∨ (x = k + 1 ∧ a < 1)) → F' (a * 256 + x) = sk pl (a + 1) x) := fun a x h1 h2 h3 h4 => HG'.out a x h1 h2 h3 (by omega)
          go_wp2
          go_roundw
          case rel => exact ⟨k + 1, F', by omega, by go_num, HR', HF', G2, HB'⟩
          case measure => simp [intOf]; omega
    · obtain rfl : k = 256 := by omega
      have G : Hid (∀ a x, a < 8 → x < 256 → F (a * 256 + x) = sk pl (a + 1) x) := by
        intro a x ha hx
        rcases Nat.eq_zero_or_pos a with rfl | hp
        · rw [Nat.zero_mul, Nat.zero_add]; exact HF.out x hx
        · exact HG.out a x hp ha hx (.inl hx)
      go_wp2
      go_ret
      exact ⟨_, F, rfl, Nat.le_refl _, HR.out, G.out, HB.out⟩
end Go.Proofs.Ythgpmocbpofnhaa
