/- The walk of FnChecksumIs and what it stands on. Conditions: bounds on lengths alone. -/
import Derived.Test.YthgpmocbpofnhaaCrcL
import Derived.Deep.RegionHeld3
namespace Go.Proofs.Ythgpmocbpofnhaa
open Go.RowKit Go.Lib

theorem upd_append (cr : Nat) (l m : List UInt8) : upd (upd cr l) m = upd cr (l ++ m) := by
  unfold upd
  rw [inv_inv, run_append]
theorem upd_lt (cr : Nat) (l : List UInt8) (h : cr < 4294967296) : upd cr l < 4294967296 := inv_lt _ (run_lt _ _ _ pl_lt (inv_lt _ h))

theorem slicing_any (cr : Nat) (g0 : Nat) (F : Nat → Nat) (v : Value) (l : List UInt8) (w : World) (hcr : cr < 4294967296) (hr : Row w g0 39 (cellsF F)) (hF : ∀ a x, a < 8 → x < 256 → F (a * 256 + x) = sk pl (a + 1) x) (h : Sl w v l) :
    Calls Try.prog 12 #[.int .u32 (cr : Int), .pointer (some ⟨g0, 0, none⟩), v] w (CrcGot w (upd cr l)) := by
  by_cases hl : l.length < 16
  · refine (slicing_small cr g0 F v l w hcr hr (fun x hx => by have h := hF 0 x (by omega) hx; rw [Nat.zero_mul, Nat.zero_add] at h; exact h) h hl).mono ?_
    rintro e w' ⟨rfl, rfl⟩
    exact ⟨rfl, Below.refl _ _⟩
  · exact slicing_big cr g0 F v l w hcr hr hF h (by omega)

theorem update_any (cr : Nat) (v : Value) (l : List UInt8) (w : World) (hcr : cr < 4294967296) (h : Sl w v l) :
    Calls Try.prog 11 #[.int .u32 (cr : Int), .int .u32 2197175160, v] w (CrcGot w (upd cr l)) := by
  have H := Lib.hid h
  clear h
  go_enter Try.func11, Try.ntmps11
  go_wp2_with fail
  refine (maketable_any _).mono ?_
  rintro e w1 ⟨g, F, rfl, hg, hr, hF, hb⟩
  have Hr := Lib.hid hr
  have HF := Lib.hid hF
  have Hb := Lib.hid hb
  clear hr hF hb
  go_wp2_with fail
  refine (slicing_any cr g F v l _ hcr Hr.out HF.out (H.out.below Hb.out)).mono ?_
  rintro e w2 ⟨rfl, hb2⟩
  have Hb2 := Lib.hid (below_step Hb.out Hb.out.size hb2)
  clear hb2
  go_wp2
  go_ret
  exact ⟨rfl, Hb2.out⟩

theorem update0_any (v : Value) (l : List UInt8) (w : World) (h : Sl w v l) :
    Calls Try.prog 11 #[.int .u32 0, .int .u32 2197175160, v] w (CrcGot w (upd 0 l)) := update_any 0 v l w (by omega) h

theorem Sl.take {w : World} {A : Option Addr} {n c : Nat} {l : List UInt8} (h : Sl w (.slice A n c) l) (k : Nat) (hk : k ≤ n) : Sl w (.slice A k c) (l.take k) := by
  have hn := h.len
  obtain ⟨A', c', hv, hnc, hcm, hl0, h0, hc⟩ := h
  injection hv with e1 e2 e3
  subst e1 e3
  have hlen : (l.take k).length = k := by simp; omega
  refine ⟨_, _, by rw [hlen], by rw [hlen]; omega, by omega, by simp [bvs], h0, fun hp => ?_⟩
  rw [hlen] at hp
  obtain ⟨g, o, hA, hg⟩ := hc (by omega)
  refine ⟨g, o, hA, fun j u hu => hg j u ?_⟩
  rw [← hu]
  simp only [bvs, List.map_take, List.getElem?_take]
  rw [if_pos]
  have := (List.getElem?_eq_some_iff.1 hu).1
  rw [bvs_length, hlen] at this
  exact this

theorem zeros4 (_w : World) (w' : World) (g : Nat) (t : TypeId) (h : Row w' g t (List.replicate 4 (.int .u8 0))) : Sl w' (.slice (some ⟨g, 0, none⟩) 4 4) [0, 0, 0, 0] :=
  h.rd (by rfl) (Nat.le_refl _) (by unfold maxLen; omega)

/-- What the checksum is taken of. -/
def bare (l : List UInt8) : List UInt8 := l.take 8 ++ ([0, 0, 0, 0] ++ l.drop 12)

theorem Sl.from12 {w : World} {g o n c : Nat} {l : List UInt8} (h : Sl w (.slice (some ⟨g, o, none⟩) n c) l) (hn : 12 ≤ n) : Sl w (.slice (if c = 12 then some ⟨g, o, none⟩ else some ⟨g, o + 12, none⟩) (n - 12) (c - 12)) (l.drop 12) := by
  have h2 := h.sub 12 (n - 12) (by omega)
  rw [List.take_of_length_le (by have := h.len; simp; omega)] at h2
  exact h2

set_option maxRecDepth 20000 in
theorem generate_any (v : Value) (l : List UInt8) (w : World) (h : Sl w v l) (hl : 12 ≤ l.length) :
    Calls Try.prog 10 #[v] w (CrcGot w (upd 0 (bare l))) := by
  have H := Lib.hid h
  obtain ⟨n, hn⟩ : ∃ n, n = l.length := ⟨_, rfl⟩
  obtain ⟨A, c, hv, hnc, hcm, hl0, h0, hc⟩ := h
  rw [← hn] at hv hl hnc
  obtain ⟨g, o, hA, hgo⟩ := hc (by omega)
  clear hgo
  subst hA
  subst hv
  unfold maxLen at hcm
  have S1 := Lib.hid (H.out.take 8 (by omega))
  have S2 := Lib.hid (H.out.from12 hl)
  have Hn := Lib.hid hn
  have i8 : (8 : Int) ≤ (c : Int) := by omega
  have i12 : (12 : Int) ≤ (n : Int) := by omega
  clear hn hl0 h0 hc
  by_cases hc12 : c = 12
  all_goals
    first | (have S2' := S2; rw [if_pos hc12] at S2') | (have S2' := S2; rw [if_neg hc12] at S2')
    clear S2
    try (subst hc12; rw [show n - 12 = 0 by omega, Nat.sub_self] at S2')
    go_enter Try.func10, Try.ntmps10
    go_wp2_with fail
    refine (update0_any _ (l.take 8) _ S1.out).mono ?_
    rintro e w1 ⟨rfl, hb1⟩
    have u1 := upd_lt 0 (l.take 8) (by omega)
    obtain ⟨x1, hx1⟩ : ∃ x1, x1 = upd 0 (l.take 8) := ⟨_, rfl⟩
    rw [← hx1] at u1 ⊢
    have Hx1 := Lib.hid hx1
    have B1 := Lib.hid hb1
    clear hx1 hb1
    go_wp2_with (at_make; refine wpList_make_row _ rfl _ _ _ rfl bT rfl _ _ _ _ 4 rfl rfl (by rfl) (by rfl) (by omega) (by unfold maxLen; omega) ?_)
    intro w2 hrow hb2
    have B2 := Lib.hid (below_step B1.out B1.out.size hb2)
    have S4 := Lib.hid (zeros4 w2 w2 _ _ hrow)
    clear hrow hb2
    go_wp2_with fail
    refine (update_any x1 _ [0, 0, 0, 0] _ u1 S4.out).mono ?_
    rintro e w3 ⟨rfl, hb3⟩
    have u2 := upd_lt x1 [0, 0, 0, 0] u1
    obtain ⟨x2, hx2⟩ : ∃ x2, x2 = upd x1 [0, 0, 0, 0] := ⟨_, rfl⟩
    rw [← hx2] at u2 ⊢
    have Hx2 := Lib.hid hx2
    have B3 := Lib.hid (below_step B2.out B2.out.size hb3)
    clear hx2 hb3
    go_wp2_with fail
    refine (update_any x2 _ (l.drop 12) _ u2 (S2'.out.below B3.out)).mono ?_
    rintro e w4 ⟨rfl, hb4⟩
    have B4 := Lib.hid (below_step B3.out B3.out.size hb4)
    have hE : Hid (upd x2 (l.drop 12) = upd 0 (bare l)) := by
      show _ = _
      rw [Hx2.out, Hx1.out, upd_append, upd_append]
      rfl
    rw [hE.out]
    clear hb4
    go_wp2
    go_ret
    exact ⟨rfl, B4.out⟩

theorem zzchecksum_any (v : Value) (l : List UInt8) (w : World) (h : Sl w v l) (hl : 12 ≤ l.length) :
    Calls Try.prog 6 #[v] w (CrcGot w (upd 0 (bare l))) := by
  have H := Lib.hid h
  clear h
  go_enter Try.func6, Try.ntmps6
  go_wp2_with fail
  refine (generate_any v l _ H.out hl).mono ?_
  rintro e w1 ⟨rfl, hb⟩
  have Hb := Lib.hid hb
  clear hb
  go_wp2
  go_ret
  exact ⟨rfl, Hb.out⟩

theorem checksum_any (v : Value) (l : List UInt8) (w : World) (h : Sl w v l) (hl : 12 ≤ l.length) (hl2 : l.length ≤ 1000000) :
    Calls Try.prog 4 #[v] w (CrcGot w (upd 0 (bare l))) := by
  have H := Lib.hid h
  obtain ⟨n, hn⟩ : ∃ n, n = l.length := ⟨_, rfl⟩
  obtain ⟨A, c, hv, hnc, hcm, hl0, h0, hc⟩ := h
  rw [← hn] at hv
  subst hv
  have i12 : ¬ (n : Int) < 12 := by omega
  have Hn := Lib.hid hn
  clear hn hl0 h0 hc hnc hcm
  go_enter Try.func4, Try.ntmps4
  go_wp2_with fail
  refine (copied_any _ l _ H.out (by omega)).mono ?_
  rintro e w1 ⟨A1, n1, c1, rfl, hs1, hb1⟩
  have S1 := Lib.hid hs1
  have B1 := Lib.hid hb1
  clear hs1 hb1
  go_wp2_with fail
  refine (zzchecksum_any _ l _ S1.out hl).mono ?_
  rintro e w2 ⟨rfl, hb2⟩
  have B2 := Lib.hid (below_step B1.out B1.out.size hb2)
  clear hb2
  go_wp2
  go_ret
  exact ⟨rfl, B2.out⟩

theorem Rd.litS {g : Nat} (w : World) (e : TypeId) (us : List Value) (n : Nat) (hl : us.length = n) (hm : n ≤ 1000) (hg : g = w.heap.size) : Rd (w.alloc (.cells us.toArray e)).drew 1 n (.slice (some ⟨g, 0, none⟩) n n) us := by
  subst hg
  exact (Rd.lit w e us n hl hm).drew

set_option maxRecDepth 20000 in
theorem spec_any (v : Value) (l : List UInt8) (w : World) (h : Sl w v l) (hl : 12 ≤ l.length) (hl2 : l.length ≤ 1000000) :
    Calls Try.prog 5 #[v] w (CrcGot w (upd 0 (bare l))) := by
  have H := Lib.hid h
  obtain ⟨n, hn⟩ : ∃ n, n = l.length := ⟨_, rfl⟩
  obtain ⟨A, c, hv, hnc, hcm, hl0, h0, hc⟩ := h
  rw [← hn] at hv hl hnc hl2
  obtain ⟨g, o, hA, hgo⟩ := hc (by omega)
  clear hgo
  subst hA
  subst hv
  unfold maxLen at hcm
  have S1 := Lib.hid (H.out.take 8 (by omega))
  have S2 := Lib.hid (H.out.from12 hl)
  have Hn := Lib.hid hn
  have i8 : (8 : Int) ≤ (c : Int) := by omega
  have i12 : (12 : Int) ≤ (n : Int) := by omega
  clear hn hl0 h0 hc
  have hfin : Hid (inv (run pl 4294967295 [l.take 8, [0, 0, 0, 0], l.drop 12].flatten) = upd 0 (bare l)) := by
    show _ = _
    have e : [l.take 8, [0, 0, 0, 0], l.drop 12].flatten = bare l := by simp [bare]
    rw [e]
    rfl
  by_cases hc12 : c = 12
  · rw [if_pos hc12] at S2
    have S2' := S2
    clear S2
    subst hc12
    rw [show n - 12 = 0 by omega, Nat.sub_self] at S2'
    go_enter Try.func5, Try.ntmps5
    go_upto_region 1 with fail
    have hmk : ∀ w, (Instr.makeSlice 22 (.int .i64 4) (.int .i64 4)).run Try.prog w = .ok (.slice (some ⟨w.heap.size, 0, none⟩) 4 4) (w.alloc (.cells #[.int .u8 0, .int .u8 0, .int .u8 0, .int .u8 0] 5)) := fun _ => by kernel_rfl
    have hz := Row.new w 5 #[.int .u8 0, .int .u8 0, .int .u8 0, .int .u8 0]
    have hl1 : [l.take 8, [0, 0, 0, 0], l.drop 12].flatten.length ≤ 1000000000 := by simp; have := Hn.out; omega
    have Z := ((zeros4 w _ _ _ hz).alloc (.cells #[.slice (some ⟨g, o, none⟩) 8 12, .slice (some ⟨w.heap.size, 0, none⟩) 4 4, .slice (some ⟨g, o, none⟩) 0 0] 22)).drew
    have T1 := ((S1.out.alloc (.cells #[.int .u8 0, .int .u8 0, .int .u8 0, .int .u8 0] 5)).alloc (.cells #[.slice (some ⟨g, o, none⟩) 8 12, .slice (some ⟨w.heap.size, 0, none⟩) 4 4, .slice (some ⟨g, o, none⟩) 0 0] 22)).drew
    have T2 := ((S2'.out.alloc (.cells #[.int .u8 0, .int .u8 0, .int .u8 0, .int .u8 0] 5)).alloc (.cells #[.slice (some ⟨g, o, none⟩) 8 12, .slice (some ⟨w.heap.size, 0, none⟩) 4 4, .slice (some ⟨g, o, none⟩) 0 0] 22)).drew
    have B0 := ((((Below.refl w.heap.size w).alloc (Nat.le_refl _) (.cells #[.int .u8 0, .int .u8 0, .int .u8 0, .int .u8 0] 5)).alloc (by simp) (.cells #[.slice (some ⟨g, o, none⟩) 8 12, .slice (some ⟨w.heap.size, 0, none⟩) 4 4, .slice (some ⟨g, o, none⟩) 0 0] 22))).drew
    have R3 : Rd ((w.alloc (.cells #[.int .u8 0, .int .u8 0, .int .u8 0, .int .u8 0] 5)).alloc (.cells #[.slice (some ⟨g, o, none⟩) 8 12, .slice (some ⟨w.heap.size, 0, none⟩) 4 4, .slice (some ⟨g, o, none⟩) 0 0] 22)).drew 1 3 (.slice (some ⟨w.heap.size + 1, 0, none⟩) 3 3) [.slice (some ⟨g, o, none⟩) 8 12, .slice (some ⟨w.heap.size, 0, none⟩) 4 4, .slice (some ⟨g, o, none⟩) 0 0] := Rd.litS _ _ [.slice (some ⟨g, o, none⟩) 8 12, .slice (some ⟨w.heap.size, 0, none⟩) 4 4, .slice (some ⟨g, o, none⟩) 0 0] 3 rfl (by omega) (by simp)
    have J := Lib.hid (joined_any _ [.slice (some ⟨g, o, none⟩) 8 12, .slice (some ⟨w.heap.size, 0, none⟩) 4 4, .slice (some ⟨g, o, none⟩) 0 0] [l.take 8, [0, 0, 0, 0], l.drop 12] _ R3 (.cons T1 (.cons Z (.cons T2 (Sls.nil _)))) hl1 (by simp))
    have HB0 := Lib.hid B0
    clear hz Z T1 T2 B0 R3 hl1
    go_region_held3 (fun _ => True) (first | exact trivial)
      (first
        | (go_at_call 9; refine J.out.mono ?_; rintro z w5 ⟨A5, n5, c5, rfl, hs5, hb5⟩; have Q5 := Lib.hid hs5; have B5 := Lib.hid hb5; clear hs5 hb5)
        | (go_at_call 8; refine (crc_any _ _ _ Q5.out).mono ?_; rintro z w6 ⟨rfl, rfl⟩; rw [hfin.out]))
    go_wp2
    go_ret
    exact ⟨rfl, below_step HB0.out HB0.out.size B5.out⟩
  · rw [if_neg hc12] at S2
    have S2' := S2
    clear S2
    go_enter Try.func5, Try.ntmps5
    go_upto_region 1 with fail
    have hmk : ∀ w, (Instr.makeSlice 22 (.int .i64 4) (.int .i64 4)).run Try.prog w = .ok (.slice (some ⟨w.heap.size, 0, none⟩) 4 4) (w.alloc (.cells #[.int .u8 0, .int .u8 0, .int .u8 0, .int .u8 0] 5)) := fun _ => by kernel_rfl
    have hz := Row.new w 5 #[.int .u8 0, .int .u8 0, .int .u8 0, .int .u8 0]
    have hl1 : [l.take 8, [0, 0, 0, 0], l.drop 12].flatten.length ≤ 1000000000 := by simp; have := Hn.out; omega
    have Z := ((zeros4 w _ _ _ hz).alloc (.cells #[.slice (some ⟨g, o, none⟩) 8 c, .slice (some ⟨w.heap.size, 0, none⟩) 4 4, .slice (some ⟨g, o + 12, none⟩) (n - 12) (c - 12)] 22)).drew
    have T1 := ((S1.out.alloc (.cells #[.int .u8 0, .int .u8 0, .int .u8 0, .int .u8 0] 5)).alloc (.cells #[.slice (some ⟨g, o, none⟩) 8 c, .slice (some ⟨w.heap.size, 0, none⟩) 4 4, .slice (some ⟨g, o + 12, none⟩) (n - 12) (c - 12)] 22)).drew
    have T2 := ((S2'.out.alloc (.cells #[.int .u8 0, .int .u8 0, .int .u8 0, .int .u8 0] 5)).alloc (.cells #[.slice (some ⟨g, o, none⟩) 8 c, .slice (some ⟨w.heap.size, 0, none⟩) 4 4, .slice (some ⟨g, o + 12, none⟩) (n - 12) (c - 12)] 22)).drew
    have B0 := ((((Below.refl w.heap.size w).alloc (Nat.le_refl _) (.cells #[.int .u8 0, .int .u8 0, .int .u8 0, .int .u8 0] 5)).alloc (by simp) (.cells #[.slice (some ⟨g, o, none⟩) 8 c, .slice (some ⟨w.heap.size, 0, none⟩) 4 4, .slice (some ⟨g, o + 12, none⟩) (n - 12) (c - 12)] 22))).drew
    have R3 : Rd ((w.alloc (.cells #[.int .u8 0, .int .u8 0, .int .u8 0, .int .u8 0] 5)).alloc (.cells #[.slice (some ⟨g, o, none⟩) 8 c, .slice (some ⟨w.heap.size, 0, none⟩) 4 4, .slice (some ⟨g, o + 12, none⟩) (n - 12) (c - 12)] 22)).drew 1 3 (.slice (some ⟨w.heap.size + 1, 0, none⟩) 3 3) [.slice (some ⟨g, o, none⟩) 8 c, .slice (some ⟨w.heap.size, 0, none⟩) 4 4, .slice (some ⟨g, o + 12, none⟩) (n - 12) (c - 12)] := Rd.litS _ _ [.slice (some ⟨g, o, none⟩) 8 c, .slice (some ⟨w.heap.size, 0, none⟩) 4 4, .slice (some ⟨g, o + 12, none⟩) (n - 12) (c - 12)] 3 rfl (by omega) (by simp)
    have J := Lib.hid (joined_any _ [.slice (some ⟨g, o, none⟩) 8 c, .slice (some ⟨w.heap.size, 0, none⟩) 4 4, .slice (some ⟨g, o + 12, none⟩) (n - 12) (c - 12)] [l.take 8, [0, 0, 0, 0], l.drop 12] _ R3 (.cons T1 (.cons Z (.cons T2 (Sls.nil _)))) hl1 (by simp))
    have HB0 := Lib.hid B0
    clear hz Z T1 T2 B0 R3 hl1
    go_region_held3 (fun _ => True) (first | exact trivial)
      (first
        | (go_at_call 9; refine J.out.mono ?_; rintro z w5 ⟨A5, n5, c5, rfl, hs5, hb5⟩; have Q5 := Lib.hid hs5; have B5 := Lib.hid hb5; clear hs5 hb5)
        | (go_at_call 8; refine (crc_any _ _ _ Q5.out).mono ?_; rintro z w6 ⟨rfl, rfl⟩; rw [hfin.out]))
    go_wp2
    go_ret
    exact ⟨rfl, below_step HB0.out HB0.out.size B5.out⟩

theorem ret_bool {a b : Bool} (h : a = b) : Ending.returned (.bool a) = .returned (.bool b) := by rw [h]
theorem fnChecksumIs_walk (A : Option Addr) (n c : Nat) (l : List UInt8) (w : World) (h : Sl w (.slice A n c) l) :
    Calls Try.prog 3 #[.slice A n c] w fun e w' => e = .returned (.bool true) ∧ Below w.heap.size w w' := by
  have hn := h.len
  have H := Lib.hid h
  have Hn := Lib.hid hn
  clear h hn
  by_cases h1 : 2147483647 < (n : Int)
  · go_enter Try.func3, Try.ntmps3
    go_wp2
    go_ret
    exact ⟨rfl, Below.refl _ _⟩
  by_cases h2 : (n : Int) < 12
  · go_enter Try.func3, Try.ntmps3
    go_wp2
    go_ret
    exact ⟨rfl, Below.refl _ _⟩
  by_cases h3 : 4096 < (n : Int)
  · go_enter Try.func3, Try.ntmps3
    go_wp2
    go_ret
    exact ⟨rfl, Below.refl _ _⟩
  go_enter Try.func3, Try.ntmps3
  go_wp2_with fail
  refine (checksum_any _ l _ H.out (by have := Hn.out; omega) (by have := Hn.out; omega)).mono ?_
  rintro e w1 ⟨rfl, hb1⟩
  have B1 := Lib.hid hb1
  clear hb1
  go_wp2_with fail
  refine (spec_any _ l _ (H.out.below B1.out) (by have := Hn.out; omega) (by have := Hn.out; omega)).mono ?_
  rintro e w2 ⟨rfl, hb2⟩
  have B2 := Lib.hid (below_step B1.out B1.out.size hb2)
  clear hb2
  go_wp2
  go_ret
  exact ⟨ret_bool (by simp), B2.out⟩
end Go.Proofs.Ythgpmocbpofnhaa
