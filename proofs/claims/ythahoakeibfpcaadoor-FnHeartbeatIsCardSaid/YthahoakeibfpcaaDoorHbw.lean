/- The reference's Heartbeat, and the walk of FnHeartbeatIs. No condition. -/
import Derived.Test.YthahoakeibfpcaaDoorHbo
import Derived.Test.YthahoakeibfpcaaDoorZer
namespace Go.Proofs.YthahoakeibfpcaaDoor
open Go.RowKit Go.Lib

theorem flag_hb (b : Bool) (n : Int) (w : World) : Calls Tryd.prog 13 #[.bool b, .int .i64 n] w fun e w' => e = .returned (.int .i64 (if b then n else 0)) ∧ w = w' := by
  go_enter Tryd.func13, Tryd.ntmps13
  cases b <;> (go_wp2; go_ret; exact ⟨rfl, rfl⟩)

set_option maxRecDepth 20000 in
theorem spechb_any (b : Bool) (A : Option Addr) (n c : Nat) (l : List UInt8) (w : World) (hs : Sl w (.slice A n c) l) (hl : l.length ≤ 4096) :
    Calls Tryd.prog 6 #[.bool b, .slice A n c] w (RetSl w (chunk (hbk b) 0 (tlv 1 l))) := by
  have hn := hs.len
  have Hs := Lib.hid hs
  have e4 : ((4 : Int) + (n : Int)).toNat = 4 + l.length := by omega
  have n0 : 0 ≤ (4 : Int) + (n : Int) := by omega
  have n1 : (4 : Int) + (n : Int) ≤ 4100 := by omega
  clear hs hn
  go_enter Tryd.func6, Tryd.ntmps6
  go_wp2_with fail
  refine (flag_hb b 1 _).mono ?_
  rintro e w' ⟨rfl, rfl⟩
  obtain ⟨f, hf⟩ : ∃ f : Int, f = if b then 1 else 0 := ⟨_, rfl⟩
  rw [← hf]
  have f0 : 0 ≤ f := by rw [hf]; split <;> omega
  have f1 : f ≤ 1 := by rw [hf]; split <;> omega
  have ef : ((4 : Int) + f).toNat = hbk b := by rw [hf]; cases b <;> rfl
  have Hf := Lib.hid ef
  clear hf ef
  go_wp2_with fail
  refine (number_any 1 2 _ (by omega) (by omega) (by omega) (by omega)).mono ?_
  rintro e w1 ⟨A1, m1, c1, rfl, hs1, hb1⟩
  have Q1 := Lib.hid hs1
  have B1 := Lib.hid hb1
  clear hs1 hb1
  go_wp2_with fail
  refine (number_any (4 + (n : Int)) 2 _ n0 (by omega) (by omega) (by omega)).mono ?_
  rintro e w2 ⟨A2, m2, c2, rfl, hs2, hb2⟩
  rw [e4] at hs2
  have Q2 := Lib.hid hs2
  have Q12 := Lib.hid (Q1.out.below hb2)
  have B2 := Lib.hid (below_step B1.out B1.out.size hb2)
  clear hs2 hb2
  go_wp2_with fail
  refine (joined_any _ [.slice A1 m1 c1, .slice A2 m2 c2, .slice A n c] [be (Int.toNat 2) (Int.toNat 1), be (Int.toNat 2) (4 + l.length), l] _ (Rd.lit w2 22 [.slice A1 m1 c1, .slice A2 m2 c2, .slice A n c] 3 rfl (by omega)) (.cons (Q12.out.alloc _) (.cons (Q2.out.alloc _) (.cons ((Hs.out.below B2.out).alloc _) (Sls.nil _)))) (by simp [be_length]; omega) (by simp)).mono ?_
  rintro e w3 ⟨A3, m3, c3, rfl, hs3, hb3⟩
  rw [show [be (Int.toNat 2) (Int.toNat 1), be (Int.toNat 2) (4 + l.length), l].flatten = tlv 1 l by simp [tlv]] at hs3
  have Q3 := Lib.hid hs3
  have d3 := B2.out.alloc B2.out.size (.cells [.slice A1 m1 c1, .slice A2 m2 c2, .slice A n c].toArray 22)
  have B3 := Lib.hid (below_step d3 d3.size hb3)
  clear hs3 hb3 d3
  go_wp2_with fail
  refine (chunk_any (4 + f) 0 _ _ _ (by omega) (by omega) (by omega) (by omega) Q3.out (by rw [tlv_length]; omega)).mono ?_
  rintro e w4 ⟨A4, m4, c4, rfl, hs4, hb4⟩
  rw [Hf.out] at hs4
  have Q4 := Lib.hid hs4
  have B4 := Lib.hid (below_step B3.out B3.out.size hb4)
  clear hs4 hb4
  go_wp2
  go_ret
  exact ⟨_, _, _, rfl, Q4.out, B4.out⟩

theorem fnHeartbeatIs_long (b : Bool) (A : Option Addr) (n c : Nat) (w : World) (h : 4096 < n) :
    Calls Tryd.prog 3 #[.bool b, .slice A n c] w fun z w' => z = .returned (.bool true) ∧ Below w.heap.size w w' := by
  have h1 : (n : Int) > 4096 := by omega
  by_cases h2 : (n : Int) > 2147483647
  all_goals
    go_enter Tryd.func3, Tryd.ntmps3
    go_wp2
    go_ret
    exact ⟨rfl, Below.refl _ _⟩

set_option maxRecDepth 20000 in
theorem fnHeartbeatIs_in (b : Bool) (A : Option Addr) (n c : Nat) (l : List UInt8) (w : World) (hs : Sl w (.slice A n c) l) (h : n ≤ 4096) :
    Calls Tryd.prog 3 #[.bool b, .slice A n c] w fun z w' => z = .returned (.bool true) ∧ Below w.heap.size w w' := by
  have hn := hs.len
  have hl : l.length ≤ 4096 := by omega
  have h1 : ¬ (n : Int) > 4096 := by omega
  have h2 : ¬ (n : Int) > 2147483647 := by omega
  have Hs := Lib.hid hs
  clear hs hn
  go_enter Tryd.func3, Tryd.ntmps3
  go_wp2_with fail
  refine (hbtext_any b A n c l _ Hs.out (by omega)).mono ?_
  rintro e w1 ⟨A1, m1, c1, rfl, hs1, hb1⟩
  have S1 := Lib.hid hs1
  have B1 := Lib.hid hb1
  clear hs1 hb1
  go_wp2_with fail
  refine (spechb_any b A n c l _ (Hs.out.below B1.out) hl).mono ?_
  rintro e w2 ⟨A2, m2, c2, rfl, hs2, hb2⟩
  have S2 := Lib.hid hs2
  have S12 := Lib.hid (S1.out.below hb2)
  have B2 := Lib.hid (below_step B1.out B1.out.size hb2)
  clear hs2 hb2
  go_wp2_with fail
  refine (hbof_any b A2 m2 c2 l _ S2.out (by omega)).mono ?_
  rintro e w3 ⟨A3, m3, c3, rfl, hs3, hb3⟩
  have S3 := Lib.hid hs3
  have S13 := Lib.hid (S12.out.below hb3)
  have B3 := Lib.hid (below_step B2.out B2.out.size hb3)
  clear hs3 hb3
  go_wp2_with fail
  refine (padded_any _ _ _ S13.out (by rw [chunk_length, tlv_length]; omega)).mono ?_
  rintro e w4 ⟨A4, m4, c4, rfl, hs4, hb4⟩
  have S4 := Lib.hid hs4
  have S34 := Lib.hid (S3.out.below hb4)
  have B4 := Lib.hid (below_step B3.out B3.out.size hb4)
  clear hs4 hb4
  go_wp2_with fail
  refine (spechb_any b A n c l _ (Hs.out.below B4.out) hl).mono ?_
  rintro e w5 ⟨A5, m5, c5, rfl, hs5, hb5⟩
  have S5 := Lib.hid hs5
  have S45 := Lib.hid (S4.out.below hb5)
  have S35 := Lib.hid (S34.out.below hb5)
  have B5 := Lib.hid (below_step B4.out B4.out.size hb5)
  clear hs5 hb5
  go_wp2_with fail
  refine (padded_any _ _ _ S5.out (by rw [chunk_length, tlv_length]; omega)).mono ?_
  rintro e w6 ⟨A6, m6, c6, rfl, hs6, hb6⟩
  have S6 := Lib.hid hs6
  have S46 := Lib.hid (S45.out.below hb6)
  have S36 := Lib.hid (S35.out.below hb6)
  have B6 := Lib.hid (below_step B5.out B5.out.size hb6)
  clear hs6 hb6
  go_wp2_with fail
  refine (same_any _ _ _ _ _ S46.out S6.out).mono ?_
  rintro e w7 ⟨rfl, rfl⟩
  rw [decide_eq_true rfl]
  go_wp2_with fail
  refine (same_any _ _ _ _ _ S36.out (Hs.out.below B6.out)).mono ?_
  rintro e w8 ⟨rfl, rfl⟩
  rw [decide_eq_true rfl]
  go_wp2
  go_ret
  exact ⟨rfl, B6.out⟩

theorem fnHeartbeatIs_walk (b : Bool) (A : Option Addr) (n c : Nat) (l : List UInt8) (w : World) (hs : Sl w (.slice A n c) l) :
    Calls Tryd.prog 3 #[.bool b, .slice A n c] w fun z w' => z = .returned (.bool true) ∧ Below w.heap.size w w' := by
  by_cases h : 4096 < n
  · exact fnHeartbeatIs_long b A n c w h
  · exact fnHeartbeatIs_in b A n c l w hs (by omega)
end Go.Proofs.YthahoakeibfpcaaDoor
