/- The contract of newReassemblyQueue. No condition. -/
import Derived.Test.YtnlkmcbhhljajaaDoorRaR
namespace Go.Proofs.YtnlkmcbhhljajaaDoor
open Go.RowKit Go.Lib

def bn (b : Bool) : Nat := if b then 0 else 1
theorem bn_t : bn true = 0 := rfl
theorem bn_f : bn false = 1 := rfl
def EmptyAt (w : World) (B : Nat) (t : TypeId) (v : Value) : Prop := ∃ g, v = .slice (some ⟨g, 0, none⟩) 0 0 ∧ Row w g t [] ∧ B ≤ g
theorem EmptyAt.alloc {w : World} {B : Nat} {t : TypeId} {v : Value} (h : EmptyAt w B t v) (o : Obj) : EmptyAt (w.alloc o) B t v := by
  obtain ⟨g, e, r, b⟩ := h
  exact ⟨g, e, r.alloc o, b⟩
theorem EmptyAt.new {w : World} {B : Nat} {t : TypeId} (h : B ≤ w.heap.size) : EmptyAt (w.alloc (.cells #[] t)) B t (.slice (some ⟨w.heap.size, 0, none⟩) 0 0) := ⟨_, rfl, Row.new w t #[], h⟩

structure NqInv (si : Nat) (w0 : World) (n : Nat) (l : Array Bool) (a : Act) (w : World) : Prop where
  ex : ∃ b0 b1 b2 b3 b4 b5 b6 b7 b8 b9 b10 : Bool, ∃ s4 s5 s6 s7 s8 s9 s10 s11 s12 s13 s14 : Value, l = #[b0, b1, b2, b3, b4, b5, b6, b7, b8, b9, b10] ∧ n = bn b0 + bn b1 + bn b2 + bn b3 + bn b4 + bn b5 + bn b6 + bn b7 + bn b8 + bn b9 + bn b10 ∧
    a = { tmps := #[.int .u16 (si : Int), .int .u32 0, undef, undef, s4, s5, s6, s7, s8, s9, s10, s11, s12, s13, s14], defers := [] } ∧
    (b0 = true → s5 = .int .u16 (si : Int)) ∧ (b1 = true → EmptyAt w w0.heap.size 69 s6) ∧ (b2 = true → EmptyAt w w0.heap.size 69 s7) ∧ (b3 = true → EmptyAt w w0.heap.size 70 s8) ∧ (b4 = true → EmptyAt w w0.heap.size 70 s9) ∧
    (b5 = true → ∃ g, s10 = .map (some g)) ∧ (b6 = true → ∃ g, s11 = .map (some g)) ∧ (b7 = true → s12 = .int .u32 0) ∧
    (b8 = true → (b0 && b1 && b2 && b3 && b4 && b5 && b6 && b7) = true ∧ s13 = .agg #[s5, .int .u16 0, .int .u32 0, s6, s7, .slice none 0 0, s8, s9, s10, s11, .bool false, .int .u64 0, s12]) ∧
    (b9 = true → b8 = true ∧ ∃ Q, s14 = .pointer (some ⟨Q, 0, none⟩) ∧ w0.heap.size ≤ Q ∧ Row w Q 61 [s5, .int .u16 0, .int .u32 0, s6, s7, .slice none 0 0, s8, s9, s10, s11, .bool false, .int .u64 0, s12]) ∧
    (b10 = true → b9 = true ∧ s4 = s14)
  below : Below w0.heap.size w0 w

theorem rq_build (si g1 g2 g3 g4 g5 g6 : Nat) (w : World) : (Instr.build 61 #[(0, .int .u16 (si : Int)), (1, .int .u16 0), (2, .int .u32 0), (3, .slice (some ⟨g1, 0, none⟩) 0 0), (4, .slice (some ⟨g2, 0, none⟩) 0 0), (6, .slice (some ⟨g3, 0, none⟩) 0 0), (7, .slice (some ⟨g4, 0, none⟩) 0 0), (8, .map (some g5)), (9, .map (some g6)), (12, .int .u32 0)]).run Tryd.prog w =
    .ok (.agg #[.int .u16 (si : Int), .int .u16 0, .int .u32 0, .slice (some ⟨g1, 0, none⟩) 0 0, .slice (some ⟨g2, 0, none⟩) 0 0, .slice none 0 0, .slice (some ⟨g3, 0, none⟩) 0 0, .slice (some ⟨g4, 0, none⟩) 0 0, .map (some g5), .map (some g6), .bool false, .int .u64 0, .int .u32 0]) w := by kernel_rfl

set_option maxRecDepth 20000 in
set_option maxHeartbeats 1600000 in
theorem newq_any (si : Nat) (w : World) :
    Calls Tryd.prog 12 #[.int .u16 (si : Int), .int .u32 0] w (NewRq si w) := by
  go_enter Tryd.func12, Tryd.ntmps12
  go_wp2_with fail
  rename_i K hK
  refine wp_region_any (by kernel_rfl) ?_
  refine wpAny_inv (NqInv si w) ?_ ?_ _ _ _ _ ?_
  · intro l a w' h
    obtain ⟨⟨b0, b1, b2, b3, b4, b5, b6, b7, b8, b9, b10, s4, s5, s6, s7, s8, s9, s10, s11, s12, s13, s14, rfl, hn, rfl, v0, v1, v2, v3, v4, v5, v6, v7, v8, v9, v10⟩, hb⟩ := h
    have q : ∀ b, bn b = 0 → b = true := fun b hb => by cases b; (cases hb); rfl
    obtain rfl := q b0 (by omega)
    obtain rfl := q b1 (by omega)
    obtain rfl := q b2 (by omega)
    obtain rfl := q b3 (by omega)
    obtain rfl := q b4 (by omega)
    obtain rfl := q b5 (by omega)
    obtain rfl := q b6 (by omega)
    obtain rfl := q b7 (by omega)
    obtain rfl := q b8 (by omega)
    obtain rfl := q b9 (by omega)
    obtain rfl := q b10 (by omega)
    obtain ⟨_, Q, rfl, hQ, hr⟩ := v9 rfl
    obtain ⟨_, rfl⟩ := v10 rfl
    obtain ⟨g1, rfl, r1, l1⟩ := v1 rfl
    obtain ⟨g2, rfl, r2, l2⟩ := v2 rfl
    obtain ⟨g3, rfl, r3, l3⟩ := v3 rfl
    obtain ⟨g4, rfl, r4, l4⟩ := v4 rfl
    obtain ⟨g5, rfl⟩ := v5 rfl
    obtain ⟨g6, rfl⟩ := v6 rfl
    obtain rfl := v0 rfl
    obtain rfl := v7 rfl
    have HR := Lib.hid hr
    have HB := Lib.hid hb
    have H1 := Lib.hid r1
    refine ⟨rfl, hK _ _ ?_⟩
    clear hr hb r1 r2 r3 r4 v0 v1 v2 v3 v4 v5 v6 v7 v8 v9 v10 hn hK
    go_wp2
    go_ret
    exact ⟨Q, g1, g2, g3, g4, _, _, rfl, HR.out, H1.out, l1, hQ, HB.out⟩
  · intro n l a w' h
    obtain ⟨⟨b0, b1, b2, b3, b4, b5, b6, b7, b8, b9, b10, s4, s5, s6, s7, s8, s9, s10, s11, s12, s13, s14, rfl, hn, rfl, v0, v1, v2, v3, v4, v5, v6, v7, v8, v9, v10⟩, hb⟩ := h
    refine ⟨fun he => ?_, fun i hi => ?_⟩
    · have key : ∀ i, i ∈ Region.ready .any _ _ → False := fun i hi => by rw [he] at hi; cases hi
      cases b0
      · exact key 0 (ready_mk rfl rfl (by simp [Region.binds]))
      cases b1
      · exact key 1 (ready_mk rfl rfl (by simp [Region.binds]))
      cases b2
      · exact key 2 (ready_mk rfl rfl (by simp [Region.binds]))
      cases b3
      · exact key 3 (ready_mk rfl rfl (by simp [Region.binds]))
      cases b4
      · exact key 4 (ready_mk rfl rfl (by simp [Region.binds]))
      cases b5
      · exact key 5 (ready_mk rfl rfl (by simp [Region.binds]))
      cases b6
      · exact key 6 (ready_mk rfl rfl (by simp [Region.binds]))
      cases b7
      · exact key 7 (ready_mk rfl rfl (by simp [Region.binds]))
      cases b8
      · exact key 8 (ready_mk rfl rfl (by simp [Region.binds]))
      cases b9
      · exact key 9 (ready_mk rfl rfl (by simp [Region.binds]))
      cases b10
      · exact key 10 (ready_mk rfl rfl (by simp [Region.binds]))
      simp only [bn_t] at hn
      omega
    obtain ⟨h1, h2, h3⟩ := mem_ready' hi
    have h1' : i < 11 := h1
    clear h1 hi
    obtain rfl | rfl | rfl | rfl | rfl | rfl | rfl | rfl | rfl | rfl | rfl : i = 0 ∨ i = 1 ∨ i = 2 ∨ i = 3 ∨ i = 4 ∨ i = 5 ∨ i = 6 ∨ i = 7 ∨ i = 8 ∨ i = 9 ∨ i = 10 := by omega
    · have hbi : b0 = false := by simpa using h2
      subst hbi
      unfold wpOp
      simp [Oper.wp, execOp, Region.wanted, mk_sets, mk_mids, run_makeMap, Act.eval, Result.andThen, Act.put, Oper.upon]
      exact .inl ⟨⟨true, b1, b2, b3, b4, b5, b6, b7, b8, b9, b10, s4, _, s6, s7, s8, s9, s10, s11, s12, s13, s14, rfl, by simp only [bn_t, bn_f] at hn ⊢; omega, rfl, fun _ => rfl, v1, v2, v3, v4, v5, v6, v7, fun h => absurd (v8 h).1 (by simp), fun h => absurd (v8 (v9 h).1).1 (by simp), fun h => absurd (v8 (v9 (v10 h).1).1).1 (by simp)⟩, hb⟩
    · have hbi : b1 = false := by simpa using h2
      subst hbi
      unfold wpOp
      simp [Oper.wp, execOp, Region.wanted, mk_sets, mk_mids, run_makeMap, Act.eval, Result.andThen, Act.put, Oper.upon]
      exact .inl ⟨⟨b0, true, b2, b3, b4, b5, b6, b7, b8, b9, b10, s4, s5, _, s7, s8, s9, s10, s11, s12, s13, s14, rfl, by simp only [bn_t, bn_f] at hn ⊢; omega, rfl, v0, fun _ => EmptyAt.new hb.size, fun h => (v2 h).alloc _, fun h => (v3 h).alloc _, fun h => (v4 h).alloc _, v5, v6, v7, fun h => absurd (v8 h).1 (by simp), fun h => absurd (v8 (v9 h).1).1 (by simp), fun h => absurd (v8 (v9 (v10 h).1).1).1 (by simp)⟩, hb.alloc hb.size _⟩
    · have hbi : b2 = false := by simpa using h2
      subst hbi
      unfold wpOp
      simp [Oper.wp, execOp, Region.wanted, mk_sets, mk_mids, run_makeMap, Act.eval, Result.andThen, Act.put, Oper.upon]
      exact .inl ⟨⟨b0, b1, true, b3, b4, b5, b6, b7, b8, b9, b10, s4, s5, s6, _, s8, s9, s10, s11, s12, s13, s14, rfl, by simp only [bn_t, bn_f] at hn ⊢; omega, rfl, v0, fun h => (v1 h).alloc _, fun _ => EmptyAt.new hb.size, fun h => (v3 h).alloc _, fun h => (v4 h).alloc _, v5, v6, v7, fun h => absurd (v8 h).1 (by simp), fun h => absurd (v8 (v9 h).1).1 (by simp), fun h => absurd (v8 (v9 (v10 h).1).1).1 (by simp)⟩, hb.alloc hb.size _⟩
    · have hbi : b3 = false := by simpa using h2
      subst hbi
      unfold wpOp
      simp [Oper.wp, execOp, Region.wanted, mk_sets, mk_mids, run_makeMap, Act.eval, Result.andThen, Act.put, Oper.upon]
      exact .inl ⟨⟨b0, b1, b2, true, b4, b5, b6, b7, b8, b9, b10, s4, s5, s6, s7, _, s9, s10, s11, s12, s13, s14, rfl, by simp only [bn_t, bn_f] at hn ⊢; omega, rfl, v0, fun h => (v1 h).alloc _, fun h => (v2 h).alloc _, fun _ => EmptyAt.new hb.size, fun h => (v4 h).alloc _, v5, v6, v7, fun h => absurd (v8 h).1 (by simp), fun h => absurd (v8 (v9 h).1).1 (by simp), fun h => absurd (v8 (v9 (v10 h).1).1).1 (by simp)⟩, hb.alloc hb.size _⟩
    · have hbi : b4 = false := by simpa using h2
      subst hbi
      unfold wpOp
      simp [Oper.wp, execOp, Region.wanted, mk_sets, mk_mids, run_makeMap, Act.eval, Result.andThen, Act.put, Oper.upon]
      exact .inl ⟨⟨b0, b1, b2, b3, true, b5, b6, b7, b8, b9, b10, s4, s5, s6, s7, s8, _, s10, s11, s12, s13, s14, rfl, by simp only [bn_t, bn_f] at hn ⊢; omega, rfl, v0, fun h => (v1 h).alloc _, fun h => (v2 h).alloc _, fun h => (v3 h).alloc _, fun _ => EmptyAt.new hb.size, v5, v6, v7, fun h => absurd (v8 h).1 (by simp), fun h => absurd (v8 (v9 h).1).1 (by simp), fun h => absurd (v8 (v9 (v10 h).1).1).1 (by simp)⟩, hb.alloc hb.size _⟩
    · have hbi : b5 = false := by simpa using h2
      subst hbi
      unfold wpOp
      simp [Oper.wp, execOp, Region.wanted, mk_sets, mk_mids, run_makeMap, Act.eval, Result.andThen, Act.put, Oper.upon]
      exact .inl ⟨⟨b0, b1, b2, b3, b4, true, b6, b7, b8, b9, b10, s4, s5, s6, s7, s8, s9, _, s11, s12, s13, s14, rfl, by simp only [bn_t, bn_f] at hn ⊢; omega, rfl, v0, fun h => (v1 h).alloc _, fun h => (v2 h).alloc _, fun h => (v3 h).alloc _, fun h => (v4 h).alloc _, fun _ => ⟨_, rfl⟩, v6, v7, fun h => absurd (v8 h).1 (by simp), fun h => absurd (v8 (v9 h).1).1 (by simp), fun h => absurd (v8 (v9 (v10 h).1).1).1 (by simp)⟩, hb.alloc hb.size _⟩
    · have hbi : b6 = false := by simpa using h2
      subst hbi
      unfold wpOp
      simp [Oper.wp, execOp, Region.wanted, mk_sets, mk_mids, run_makeMap, Act.eval, Result.andThen, Act.put, Oper.upon]
      exact .inl ⟨⟨b0, b1, b2, b3, b4, b5, true, b7, b8, b9, b10, s4, s5, s6, s7, s8, s9, s10, _, s12, s13, s14, rfl, by simp only [bn_t, bn_f] at hn ⊢; omega, rfl, v0, fun h => (v1 h).alloc _, fun h => (v2 h).alloc _, fun h => (v3 h).alloc _, fun h => (v4 h).alloc _, v5, fun _ => ⟨_, rfl⟩, v7, fun h => absurd (v8 h).1 (by simp), fun h => absurd (v8 (v9 h).1).1 (by simp), fun h => absurd (v8 (v9 (v10 h).1).1).1 (by simp)⟩, hb.alloc hb.size _⟩
    · have hbi : b7 = false := by simpa using h2
      subst hbi
      unfold wpOp
      simp [Oper.wp, execOp, Region.wanted, mk_sets, mk_mids, run_makeMap, Act.eval, Result.andThen, Act.put, Oper.upon]
      exact .inl ⟨⟨b0, b1, b2, b3, b4, b5, b6, true, b8, b9, b10, s4, s5, s6, s7, s8, s9, s10, s11, _, s13, s14, rfl, by simp only [bn_t, bn_f] at hn ⊢; omega, rfl, v0, v1, v2, v3, v4, v5, v6, fun _ => rfl, fun h => absurd (v8 h).1 (by simp), fun h => absurd (v8 (v9 h).1).1 (by simp), fun h => absurd (v8 (v9 (v10 h).1).1).1 (by simp)⟩, hb⟩
    · have hbi : b8 = false := by simpa using h2
      subst hbi
      simp [Region.binds] at h3
      obtain ⟨rfl, rfl, rfl, rfl, rfl, rfl, rfl, rfl⟩ := h3
      obtain ⟨g1, rfl, r1, l1⟩ := v1 rfl
      obtain ⟨g2, rfl, r2, l2⟩ := v2 rfl
      obtain ⟨g3, rfl, r3, l3⟩ := v3 rfl
      obtain ⟨g4, rfl, r4, l4⟩ := v4 rfl
      obtain ⟨g5, rfl⟩ := v5 rfl
      obtain ⟨g6, rfl⟩ := v6 rfl
      obtain rfl := v0 rfl
      obtain rfl := v7 rfl

      unfold wpOp
      simp [rq_build, Oper.wp, execOp, Region.wanted, Act.eval, Result.andThen, Act.put, Oper.upon]
      exact .inl ⟨⟨true, true, true, true, true, true, true, true, true, b9, b10, _, _, _, _, _, _, _, _, _, _, _, rfl, by simp only [bn_t, bn_f] at hn ⊢; omega, rfl, fun _ => rfl, v1, v2, v3, v4, v5, v6, fun _ => rfl, fun _ => ⟨rfl, rfl⟩, fun h => absurd (v9 h).1 (by simp), fun h => absurd (v9 (v10 h).1).1 (by simp)⟩, hb⟩
    · have hbi : b9 = false := by simpa using h2
      subst hbi
      simp [Region.binds] at h3
      subst h3
      obtain ⟨e8, rfl⟩ := v8 rfl
      simp only [Bool.and_eq_true] at e8
      obtain ⟨⟨⟨⟨⟨⟨⟨rfl, rfl⟩, rfl⟩, rfl⟩, rfl⟩, rfl⟩, rfl⟩, rfl⟩ := e8
      obtain ⟨g1, rfl, r1, l1⟩ := v1 rfl
      obtain ⟨g2, rfl, r2, l2⟩ := v2 rfl
      obtain ⟨g3, rfl, r3, l3⟩ := v3 rfl
      obtain ⟨g4, rfl, r4, l4⟩ := v4 rfl
      obtain ⟨g5, rfl⟩ := v5 rfl
      obtain ⟨g6, rfl⟩ := v6 rfl
      obtain rfl := v0 rfl
      obtain rfl := v7 rfl
      unfold wpOp
      simp [Oper.wp, execOp, Region.wanted, Act.eval, Result.andThen, Act.put, Oper.upon]
      exact .inl ⟨⟨true, true, true, true, true, true, true, true, true, true, b10, _, _, _, _, _, _, _, _, _, _, _, rfl, by simp only [bn_t, bn_f] at hn ⊢; omega, rfl, fun _ => rfl, fun h => (v1 h).alloc _, fun h => (v2 h).alloc _, fun h => (v3 h).alloc _, fun h => (v4 h).alloc _, v5, v6, fun _ => rfl, fun _ => ⟨rfl, rfl⟩, fun _ => ⟨rfl, _, rfl, hb.size, Row.new _ _ _⟩, fun h => absurd (v10 h).1 (by simp)⟩, hb.alloc hb.size _⟩
    · have hbi : b10 = false := by simpa using h2
      subst hbi
      simp [Region.binds] at h3
      obtain ⟨rfl, rfl, rfl, rfl, rfl, rfl, rfl, rfl, rfl, rfl, _⟩ := h3
      unfold wpOp
      simp [Oper.wp, execOp, Region.wanted, Act.eval, Result.andThen, Act.put, Oper.upon]
      exact .inl ⟨⟨true, true, true, true, true, true, true, true, true, true, true, _, _, _, _, _, _, _, _, _, _, _, rfl, by simp only [bn_t, bn_f] at hn ⊢; omega, rfl, v0, v1, v2, v3, v4, v5, v6, v7, v8, v9, fun _ => ⟨rfl, rfl⟩⟩, hb⟩
  · exact ⟨⟨false, false, false, false, false, false, false, false, false, false, false, .pointer none, undef, undef, undef, undef, undef, undef, undef, undef, undef, undef, rfl, rfl, rfl, fun h => by (cases h), fun h => by (cases h), fun h => by (cases h), fun h => by (cases h), fun h => by (cases h), fun h => by (cases h), fun h => by (cases h), fun h => by (cases h), fun h => by (cases h), fun h => by (cases h), fun h => by (cases h)⟩, ⟨rfl, rfl, rfl, Nat.le_refl _, fun _ _ => rfl⟩⟩
end Go.Proofs.YtnlkmcbhhljajaaDoor
