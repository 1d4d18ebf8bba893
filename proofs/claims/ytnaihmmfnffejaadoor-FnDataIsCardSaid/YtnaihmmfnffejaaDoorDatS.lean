/- Contracts of the reference's Data, and of the laws' sameData and full. Conditions: the numbers fit. -/
import Derived.Test.YtnaihmmfnffejaaDoorDatM
namespace Go.Proofs.YtnaihmmfnffejaaDoor
open Go.RowKit Go.Lib

theorem samedata_any (u b e i : Bool) (tsn st sq pr : Int) (A B : Option Addr) (n c m d : Nat) (w : World) :
    Calls Tryd.prog 37 #[.agg #[.bool u, .bool b, .bool e, .bool i, .int .u32 tsn, .int .i64 st, .int .i64 sq, .int .u32 pr, .slice A n c], .agg #[.bool u, .bool b, .bool e, .bool i, .int .u32 tsn, .int .i64 st, .int .i64 sq, .int .u32 pr, .slice B m d]] w fun z w' =>
      z = .returned (.bool true) ∧ Below w.heap.size w w' := by
  go_enter Tryd.func37, Tryd.ntmps37
  go_wp2
  go_ret
  exact ⟨ret_true (by simp), ((Below.refl _ _).alloc (Nat.le_refl _) _).alloc (by simp) _⟩

theorem full_any (u b e i : Bool) (tsn st sq pr : Int) (A B : Option Addr) (n c m d : Nat) (w : World) :
    Calls Tryd.prog 38 #[.agg #[.bool u, .bool b, .bool e, .bool i, .int .u32 tsn, .int .i64 st, .int .i64 sq, .int .u32 pr, .slice A n c], .slice B m d] w fun z w' =>
      z = .returned (.agg #[.bool u, .bool b, .bool e, .bool i, .int .u32 tsn, .int .i64 st, .int .i64 sq, .int .u32 pr, .slice B m d]) ∧ Below w.heap.size w w' := by
  go_enter Tryd.func38, Tryd.ntmps38
  go_wp2
  refine bodyPost_ret (results_cell_row rfl _ _ (w.heap.size + 1) _ _ (0, 0) _ rfl (Row.new' _ _ #[.bool u, .bool b, .bool e, .bool i, .int .u32 tsn, .int .i64 st, .int .i64 sq, .int .u32 pr, .slice B m d] (by simp)) Tryd.underlying59 rfl da_info) rfl ?_
  exact ⟨rfl, ((Below.refl _ _).alloc (Nat.le_refl _) _).alloc (by simp) _⟩

def flagv (b : Bool) (n : Int) : Int := if b then n else 0
theorem flag_v (b : Bool) (n : Int) (w : World) : Calls Tryd.prog 59 #[.bool b, .int .i64 n] w fun e w' => e = .returned (.int .i64 (flagv b n)) ∧ w = w' := flag_any b n w
theorem or_flags (u b e i : Bool) : bits BinOp.or IntKind.i64 (bits BinOp.or IntKind.i64 (bits BinOp.or IntKind.i64 (flagv e 1) (flagv b 2)) (flagv u 4)) (flagv i 8) = (fl u b e i : Int) := by
  cases u <;> cases b <;> cases e <;> cases i <;> rfl

set_option maxRecDepth 20000 in
set_option maxHeartbeats 1600000 in
theorem specdata_any (u b e i : Bool) (tsn st sq pr : Int) (A : Option Addr) (n c : Nat) (l : List UInt8) (w : World)
    (hs : Sl w (.slice A n c) l) (hl : l.length ≤ 4096)
    (ht0 : 0 ≤ tsn) (ht : tsn ≤ 4294967295) (h1 : 0 ≤ st) (h2 : st ≤ 65535) (h3 : 0 ≤ sq) (h4 : sq ≤ 65535) (hp0 : 0 ≤ pr) (hp : pr ≤ 4294967295) :
    Calls Tryd.prog 36 #[.agg #[.bool u, .bool b, .bool e, .bool i, .int .u32 tsn, .int .i64 st, .int .i64 sq, .int .u32 pr, .slice A n c]] w
      (RetSl w (chunk 0 (fl u b e i) (body tsn.toNat st.toNat sq.toNat pr.toNat l))) := by
  have hg := Row.new w 59 #[.bool u, .bool b, .bool e, .bool i, .int .u32 tsn, .int .i64 st, .int .i64 sq, .int .u32 pr, .slice A n c]
  have hs1 := hs.alloc (.cells #[.bool u, .bool b, .bool e, .bool i, .int .u32 tsn, .int .i64 st, .int .i64 sq, .int .u32 pr, .slice A n c] 59)
  have hb1 := (Below.refl w.heap.size w).alloc (Nat.le_refl _) (.cells #[.bool u, .bool b, .bool e, .bool i, .int .u32 tsn, .int .i64 st, .int .i64 sq, .int .u32 pr, .slice A n c] 59)
  go_enter Tryd.func36, Tryd.ntmps36
  go_wp2_with fail
  generalize w.alloc (.cells #[.bool u, .bool b, .bool e, .bool i, .int .u32 tsn, .int .i64 st, .int .i64 sq, .int .u32 pr, .slice A n c] 59) = W at hg hs1 hb1 ⊢
  have hk := Row.nine (w := W.drew) hg
  have Hg := Lib.hid hg
  have Hs1 := Lib.hid hs1
  have Hb1 := Lib.hid hb1
  clear hs hg hs1 hb1
  go_region_held3 (fun w' => w'.cell? ⟨w.heap.size, 0, none⟩ = some (.bool u) ∧ w'.cell? ⟨w.heap.size, 1, none⟩ = some (.bool b) ∧ w'.cell? ⟨w.heap.size, 2, none⟩ = some (.bool e) ∧ w'.cell? ⟨w.heap.size, 3, none⟩ = some (.bool i) ∧ w'.cell? ⟨w.heap.size, 4, none⟩ = some (.int .u32 tsn) ∧ w'.cell? ⟨w.heap.size, 5, none⟩ = some (.int .i64 st) ∧ w'.cell? ⟨w.heap.size, 6, none⟩ = some (.int .i64 sq) ∧ w'.cell? ⟨w.heap.size, 7, none⟩ = some (.int .u32 pr) ∧ w'.cell? ⟨w.heap.size, 8, none⟩ = some (.slice A n c)) (with_reducible exact hk)
    (first | (go_at_call 59; refine (flag_v _ _ _).mono ?_; rintro z w' ⟨rfl, rfl⟩))
  rw [or_flags]
  obtain ⟨F, hF⟩ : ∃ F : Int, F = (fl u b e i : Int) := ⟨_, rfl⟩
  rw [← hF]
  have hF0 : 0 ≤ F := by omega
  have hF1 : F ≤ 255 := by have : fl u b e i ≤ 15 := (by cases u <;> cases b <;> cases e <;> cases i <;> decide); omega
  have HF := Lib.hid hF
  clear hF hk
  go_wp2_with fail
  have hk := Row.nine (w := W.drew.drew) Hg.out
  have ht' : IntKind.i64.wrap tsn = tsn := by simp [IntKind.wrap, IntKind.bits, IntKind.signed]; omega
  have hp' : IntKind.i64.wrap pr = pr := by simp [IntKind.wrap, IntKind.bits, IntKind.signed]; omega
  go_region_held3 (fun w' => w'.cell? ⟨w.heap.size, 0, none⟩ = some (.bool u) ∧ w'.cell? ⟨w.heap.size, 1, none⟩ = some (.bool b) ∧ w'.cell? ⟨w.heap.size, 2, none⟩ = some (.bool e) ∧ w'.cell? ⟨w.heap.size, 3, none⟩ = some (.bool i) ∧ w'.cell? ⟨w.heap.size, 4, none⟩ = some (.int .u32 tsn) ∧ w'.cell? ⟨w.heap.size, 5, none⟩ = some (.int .i64 st) ∧ w'.cell? ⟨w.heap.size, 6, none⟩ = some (.int .i64 sq) ∧ w'.cell? ⟨w.heap.size, 7, none⟩ = some (.int .u32 pr) ∧ w'.cell? ⟨w.heap.size, 8, none⟩ = some (.slice A n c)) (first | (with_reducible exact hk) | (with_reducible exact k1) | (with_reducible exact k2) | (with_reducible exact k3) | (with_reducible exact k4) | (with_reducible exact k5) | (with_reducible exact k6) | exact Row.nine (Row.alloc G4.out _))
    (first
      | (go_at_call_of 42 (Value.int IntKind.i64 tsn); refine (number_any tsn 4 _ ht0 (by omega) (by omega) (by omega)).mono ?_; rintro z w1 ⟨A1, n1, c1, rfl, hs1, hb1⟩; have Q1 := Lib.hid hs1; have B1 := Lib.hid hb1; have g1 := Hg.out.drew.drew.below hb1 Hg.out.drew.drew.lt; have G1 := Lib.hid g1; have k1 := g1.nine; clear g1 hs1 hb1)
      | (go_at_call_of 42 (Value.int IntKind.i64 st); refine (number_any st 2 _ h1 (by omega) (by omega) (by omega)).mono ?_; rintro z w2 ⟨A2, n2, c2, rfl, hs2, hb2⟩; have Q2 := Lib.hid hs2; have B2 := Lib.hid hb2; have g2 := G1.out.below hb2 G1.out.lt; have G2 := Lib.hid g2; have k2 := g2.nine; clear g2 hs2 hb2)
      | (go_at_call_of 42 (Value.int IntKind.i64 sq); refine (number_any sq 2 _ h3 (by omega) (by omega) (by omega)).mono ?_; rintro z w3 ⟨A3, n3, c3, rfl, hs3, hb3⟩; have Q3 := Lib.hid hs3; have B3 := Lib.hid hb3; have g3 := G2.out.below hb3 G2.out.lt; have G3 := Lib.hid g3; have k3 := g3.nine; clear g3 hs3 hb3)
      | (go_at_call_of 42 (Value.int IntKind.i64 pr); refine (number_any pr 4 _ hp0 (by omega) (by omega) (by omega)).mono ?_; rintro z w4 ⟨A4, n4, c4, rfl, hs4, hb4⟩; have Q4 := Lib.hid hs4; have B4 := Lib.hid hb4; have g4 := G3.out.below hb4 G3.out.lt; have G4 := Lib.hid g4; have k4 := g4.nine; clear g4 hs4 hb4)
      | (go_at_call 41; refine (joined_any _ [.slice A1 n1 c1, .slice A2 n2 c2, .slice A3 n3 c3, .slice A4 n4 c4, .slice A n c] [be (Int.toNat 4) tsn.toNat, be (Int.toNat 2) st.toNat, be (Int.toNat 2) sq.toNat, be (Int.toNat 4) pr.toNat, l] _ (Rd.lit w4 22 [.slice A1 n1 c1, .slice A2 n2 c2, .slice A3 n3 c3, .slice A4 n4 c4, .slice A n c] 5 rfl (by omega)) (.cons ((((Q1.out.below B2.out).below B3.out).below B4.out).alloc _) (.cons (((Q2.out.below B3.out).below B4.out).alloc _) (.cons ((Q3.out.below B4.out).alloc _) (.cons (Q4.out.alloc _) (.cons (((((Hs1.out.drew.drew.below B1.out).below B2.out).below B3.out).below B4.out).alloc _) (Sls.nil _)))))) (by simp [be_length]; omega) (by simp)).mono ?_; rintro z w5 ⟨A5, n5, c5, rfl, hs5, hb5⟩; have Q5 := Lib.hid hs5; have B5 := Lib.hid hb5; have g5 := (G4.out.alloc _).below hb5 (G4.out.alloc _).lt; have G5 := Lib.hid g5; have k5 := g5.nine; clear g5 hs5 hb5)
      | (go_at_call 14; refine (chunk_any 0 F _ _ _ (by omega) (by omega) hF0 hF1 Q5.out (by simp [be_length]; omega)).mono ?_; rintro z w6 ⟨A6, n6, c6, rfl, hs6, hb6⟩; have Q6 := Lib.hid hs6; have B6 := Lib.hid hb6; have g6 := G5.out.below hb6 G5.out.lt; have k6 := g6.nine; clear g6 hs6 hb6))
  have e0 : chunk (Int.toNat 0) F.toNat [be (Int.toNat 4) tsn.toNat, be (Int.toNat 2) st.toNat, be (Int.toNat 2) sq.toNat, be (Int.toNat 4) pr.toNat, l].flatten = chunk 0 (fl u b e i) (body tsn.toNat st.toNat sq.toNat pr.toNat l) := by
    rw [HF.out]; simp [body]
  have E0 := Lib.hid e0
  have d0 := Hb1.out.drew.drew
  have d1 := below_step d0 d0.size B1.out
  have d2 := below_step d1 d1.size B2.out
  have d3 := below_step d2 d2.size B3.out
  have d4 := below_step d3 d3.size B4.out
  have d4a := d4.alloc d4.size (.cells [.slice A1 n1 c1, .slice A2 n2 c2, .slice A3 n3 c3, .slice A4 n4 c4, .slice A n c].toArray 22)
  have d5 := below_step d4a d4a.size B5.out
  have D6 := Lib.hid (below_step d5 d5.size B6.out)
  clear hk k1 k2 k3 k4 k5 k6 d0 d1 d2 d3 d4 d4a d5 e0 ht' hp'
  go_wp2
  go_ret
  exact ⟨A6, n6, c6, rfl, by rw [← E0.out]; exact Q6.out, D6.out⟩
end Go.Proofs.YtnaihmmfnffejaaDoor
