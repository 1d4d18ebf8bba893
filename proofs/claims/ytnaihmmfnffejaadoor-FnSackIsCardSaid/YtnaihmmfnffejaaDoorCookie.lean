/- Contracts on the road of FnCookieIs, and its walk. No condition but bounds on lengths. -/
import Derived.Test.YtnaihmmfnffejaaDoorChunkW
namespace Go.Proofs.YtnaihmmfnffejaaDoor
open Go.RowKit Go.Lib

theorem chunk_rev (typ : Nat) (l : List UInt8) : chunk typ 0 l = UInt8.ofNat typ :: 0 :: (be 2 (l.length + 4) ++ l) := by simp [chunk, Nat.add_comm]

theorem Sl.only' {w w' : World} {v : Value} {l : List UInt8} {g : Nat} (h : Sl w v l) (hg : w.grownBy w' (some g)) (hf : 0 < l.length → Far v g) : Sl w' v l := by
  rcases Nat.eq_zero_or_pos l.length with hz | hp
  · obtain rfl := List.eq_nil_of_length_eq_zero hz
    obtain ⟨A, c, hv, hnc, hcm, hl0, h0, _⟩ := h
    exact ⟨A, c, hv, hnc, hcm, hl0, h0, fun hp => absurd hp (by simp)⟩
  · exact h.only hg (hf hp)

theorem ckmarshal (gc : Nat) (t : TypeId) (A : Option Addr) (n c : Nat) (l : List UInt8) (w : World) (hr : Row w gc t [.int .u8 0, .int .u8 0, .slice none 0 0, .slice A n c]) (hs : Sl w (.slice A n c) l) (hf : 0 < l.length → Far (.slice A n c) gc) (hl : l.length ≤ 65531) :
    Calls Tryd.prog 65 #[.pointer (some ⟨gc, 0, none⟩)] w (RetSlO w gc (chunk 10 0 l)) := by
  have h0 : w.cell? ⟨gc, 0, none⟩ = some (.int .u8 0) := by rw [hr.cell]; rfl
  have h1 : w.cell? ⟨gc, 1, none⟩ = some (.int .u8 0) := by rw [hr.cell]; rfl
  have h2 : w.cell? ⟨gc, 2, none⟩ = some (.slice none 0 0) := by rw [hr.cell]; rfl
  have h3 : w.cell? ⟨gc, 3, none⟩ = some (.slice A n c) := by rw [hr.cell]; rfl
  have f0 := hr.frozen 0
  have f1 := hr.frozen 1
  have f2 := hr.frozen 2
  have Hr := Lib.hid hr
  have Hs := Lib.hid hs
  have Hf := Lib.hid hf
  clear hr hs hf
  go_enter Tryd.func65, Tryd.ntmps65
  go_wp2_with fail
  have hW : Row (((w.setCell ⟨gc, 0, none⟩ (.int .u8 10)).setCell ⟨gc, 1, none⟩ (.int .u8 0)).setCell ⟨gc, 2, none⟩ (.slice A n c)) gc t [.int .u8 10, .int .u8 0, .slice A n c, .slice A n c] := ((Hr.out.set 0 _).set 1 _).set 2 _
  have hg : w.grownBy (((w.setCell ⟨gc, 0, none⟩ (.int .u8 10)).setCell ⟨gc, 1, none⟩ (.int .u8 0)).setCell ⟨gc, 2, none⟩ (.slice A n c)) (some gc) :=
    only_setCell (p := ⟨gc, 2, none⟩) (only_setCell (p := ⟨gc, 1, none⟩) (only_setCell (p := ⟨gc, 0, none⟩) (only_refl _ _) (.inl rfl) _) (.inl rfl) _) (.inl rfl) _
  refine (hmarshal_any gc t 10 0 (.slice A n c) [_] l _ hW (Hs.out.only' hg Hf.out) hl).mono ?_
  rintro e w2 ⟨A2, n2, c2, rfl, hs2, hb2⟩
  have Hs2 := Lib.hid hs2
  have Hg2 := Lib.hid (only_below hg hb2)
  clear hs2 hb2 hW hg
  go_wp2
  go_ret2
  exact ⟨A2, n2, c2, rfl, by rw [chunk_rev]; exact Hs2.out, Hg2.out⟩

theorem zzcookietext_any (A : Option Addr) (n c : Nat) (l : List UInt8) (w : World) (hs : Sl w (.slice A n c) l) (hl : l.length ≤ 65531) :
    Calls Tryd.prog 46 #[.slice A n c] w (RetSlE w (chunk 10 0 l)) := by
  have Hs := Lib.hid hs
  clear hs
  go_enter Tryd.func46, Tryd.ntmps46
  go_wp2_with fail
  refine (ckmarshal w.heap.size _ A n c l _ (Row.new w _ _) (Hs.out.alloc _) (fun hp => Hs.out.far hp (Nat.le_refl _)) hl).mono ?_
  rintro e w2 ⟨A2, n2, c2, rfl, hs2, hg2⟩
  have hb2 : Below w.heap.size w w2 := below_only ((Below.refl _ _).alloc (Nat.le_refl _) _) (by simp) hg2 (Nat.le_refl _)
  have Hs2 := Lib.hid hs2
  have Hb2 := Lib.hid hb2
  clear hs2 hg2 hb2
  go_wp2
  go_ret2
  exact ⟨A2, n2, c2, rfl, Hs2.out, Hb2.out⟩

theorem cookietext_any (v : Value) (l : List UInt8) (w : World) (hs : Sl w v l) (hl : l.length ≤ 65531) :
    Calls Tryd.prog 18 #[v] w (RetSlB w (chunk 10 0 l)) := by
  have Hs := Lib.hid hs
  clear hs
  go_enter Tryd.func18, Tryd.ntmps18
  go_wp2_with fail
  refine (copied_any _ _ _ Hs.out (by omega)).mono ?_
  rintro e w1 ⟨A1, n1, c1, rfl, hs1, hb1⟩
  have Hs1 := Lib.hid hs1
  have Hb1 := Lib.hid hb1
  clear hs1 hb1
  go_wp2_with fail
  refine (zzcookietext_any A1 n1 c1 l _ Hs1.out hl).mono ?_
  rintro e w2 ⟨A2, n2, c2, rfl, hs2, hb2⟩
  have Hs2 := Lib.hid hs2
  have Hb2 := Lib.hid (Hb1.out.trans (hb2.mono Hb1.out.size))
  clear hs2 hb2
  go_wp2_with fail
  go_region_with ((go_at_call 40; refine (copied_any _ _ _ Hs2.out.drew (by simp [chunk_length]; omega)).mono ?_; rintro e w3 ⟨A3, n3, c3, rfl, hs3, hb3⟩))
  have Hs3 := Lib.hid hs3
  have Hb3 := Lib.hid hb3
  clear hs3 hb3
  go_wp2
  go_ret2
  exact ⟨A3, n3, c3, rfl, Hs3.out, Hb2.out.drew.trans (Hb3.out.mono Hb2.out.size)⟩

theorem chunk_hd0 (typ : Nat) (l : List UInt8) : chunk typ 0 l = UInt8.ofNat typ :: 0 :: (be 2 (4 + l.length) ++ (l ++ List.replicate 0 0)) := by simp [chunk]

/-- What cookie's unmarshal leaves: the cookie reads as the value. -/
theorem ckunmarshal (gc : Nat) (t : TypeId) (A : Option Addr) (n c : Nat) (l : List UInt8) (w : World) (hr : Row w gc t [.int .u8 0, .int .u8 0, .slice none 0 0, .slice none 0 0]) (hs : Sl w (.slice A n c) (chunk 10 0 l)) (hf : Far (.slice A n c) gc) (hl : l.length ≤ 65531) :
    Calls Tryd.prog 66 #[.pointer (some ⟨gc, 0, none⟩), .slice A n c] w fun e w' =>
      ∃ A2 n2 c2, e = .returned .nilIface ∧ Row w' gc t [.int .u8 10, .int .u8 0, .slice A2 n2 c2, .slice A2 n2 c2] ∧ Sl w' (.slice A2 n2 c2) l ∧ w.grownBy w' (some gc) := by
  rw [chunk_hd0] at hs
  have Hr := Lib.hid hr
  have Hs := Lib.hid hs
  have Hf := Lib.hid hf
  clear hr hs hf
  go_enter Tryd.func66, Tryd.ntmps66
  go_wp2_with fail
  refine (hunmarshal_ok gc t _ _ _ [_] A n c _ _ l 0 _ Hr.out Hs.out Hf.out hl (by omega)).mono ?_
  rintro e w2 ⟨A2, n2, c2, rfl, hr2, hs2, hf2, hg2⟩
  have x0 : w2.cell? ⟨gc, 0, none⟩ = some (.int .u8 10) := by rw [hr2.cell]; rfl
  have x2 : w2.cell? ⟨gc, 2, none⟩ = some (.slice A2 n2 c2) := by rw [hr2.cell]; rfl
  have x3 : w2.cell? ⟨gc, 3, none⟩ = some (.slice none 0 0) := by rw [hr2.cell]; rfl
  have f3 := hr2.frozen 3
  have Hr2 := Lib.hid hr2
  have Hs2 := Lib.hid hs2
  have Hf2 := Lib.hid hf2
  have Hg2 := Lib.hid hg2
  clear hr2 hs2 hf2 hg2
  go_wp2
  go_ret
  exact ⟨A2, n2, c2, rfl, Hr2.out.set 3 _, Hs2.out.only (only_setCell (p := ⟨gc, 3, none⟩) (only_refl _ _) (.inl rfl) _) Hf2.out, only_setCell (p := ⟨gc, 3, none⟩) Hg2.out (.inl rfl) _⟩

theorem zzcookieof_any (A : Option Addr) (n c : Nat) (l : List UInt8) (w : World) (hs : Sl w (.slice A n c) (chunk 10 0 l)) (hl : l.length ≤ 65531) :
    Calls Tryd.prog 47 #[.slice A n c] w (RetSlE w l) := by
  have hf : Far (.slice A n c) w.heap.size := hs.far (by rw [chunk_length]; omega) (Nat.le_refl _)
  have Hs := Lib.hid hs
  have Hf := Lib.hid hf
  clear hs hf
  go_enter Tryd.func47, Tryd.ntmps47
  go_wp2_with fail
  refine (ckunmarshal w.heap.size _ A n c l _ (Row.new w _ _) (Hs.out.alloc _) Hf.out hl).mono ?_
  rintro e w2 ⟨A2, n2, c2, rfl, hr2, hs2, hg2⟩
  have hb2 : Below w.heap.size w w2 := below_only ((Below.refl _ _).alloc (Nat.le_refl _) _) (by simp) hg2 (Nat.le_refl _)
  have x3 : w2.cell? ⟨w.heap.size, 3, none⟩ = some (.slice A2 n2 c2) := by rw [hr2.cell]; rfl
  have Hs2 := Lib.hid hs2
  have Hb2 := Lib.hid hb2
  clear hr2 hs2 hg2 hb2
  go_wp2
  go_ret2
  exact ⟨A2, n2, c2, rfl, Hs2.out, Hb2.out⟩

theorem cookieof_any (v : Value) (l : List UInt8) (w : World) (hs : Sl w v (chunk 10 0 l)) (hl : l.length ≤ 65531) :
    Calls Tryd.prog 19 #[v] w (RetSlB w l) := by
  have Hs := Lib.hid hs
  clear hs
  go_enter Tryd.func19, Tryd.ntmps19
  go_wp2_with fail
  refine (copied_any _ _ _ Hs.out (by simp [chunk_length]; omega)).mono ?_
  rintro e w1 ⟨A1, n1, c1, rfl, hs1, hb1⟩
  have Hs1 := Lib.hid hs1
  have Hb1 := Lib.hid hb1
  clear hs1 hb1
  go_wp2_with fail
  refine (zzcookieof_any A1 n1 c1 l _ Hs1.out hl).mono ?_
  rintro e w2 ⟨A2, n2, c2, rfl, hs2, hb2⟩
  have Hs2 := Lib.hid hs2
  have Hb2 := Lib.hid (Hb1.out.trans (hb2.mono Hb1.out.size))
  clear hs2 hb2
  go_wp2_with fail
  go_region_with ((go_at_call 40; refine (copied_any _ _ _ Hs2.out.drew (by omega)).mono ?_; rintro e w3 ⟨A3, n3, c3, rfl, hs3, hb3⟩))
  have Hs3 := Lib.hid hs3
  have Hb3 := Lib.hid hb3
  clear hs3 hb3
  go_wp2
  go_ret2
  exact ⟨A3, n3, c3, rfl, Hs3.out, Hb2.out.drew.trans (Hb3.out.mono Hb2.out.size)⟩

theorem fnCookieIs_walk (A : Option Addr) (n c : Nat) (l : List UInt8) (w : World) (hs : Sl w (.slice A n c) l) :
    Calls Tryd.prog 6 #[.slice A n c] w fun e w' => e = .returned (.bool true) ∧ Below w.heap.size w w' := by
  have hl := hs.len
  have Hl := Lib.hid hl
  have Hs := Lib.hid hs
  clear hs hl
  by_cases h : (n : Int) > 4096
  · go_enter Tryd.func6, Tryd.ntmps6
    go_wp2
    all_goals
      go_ret
      exact ⟨rfl, Below.refl _ _⟩
  have hn : (n : Int) ≤ 4096 := by omega
  clear h
  go_enter Tryd.func6, Tryd.ntmps6
  go_wp2_with fail
  refine (cookietext_any _ l _ Hs.out (by have := Hl.out; omega)).mono ?_
  rintro e w1 ⟨A1, n1, c1, rfl, hs1, hb1⟩
  have Hs1 := Lib.hid hs1
  have Hb1 := Lib.hid hb1
  clear hs1 hb1
  go_wp2_with fail
  refine (chunk_any 10 0 _ l _ (by omega) (by omega) (by omega) (by omega) (Hs.out.below Hb1.out) (by have := Hl.out; omega)).mono ?_
  rintro e w2 ⟨A2, n2, c2, rfl, hs2, hb2⟩
  have Hs2 := Lib.hid hs2
  have hs1 := Hs1.out.below hb2
  have Hs1' := Lib.hid hs1
  have Hb2 := Lib.hid (Hb1.out.trans (hb2.mono Hb1.out.size))
  clear hs2 hb2 hs1
  go_wp2_with fail
  refine (cookieof_any _ l _ Hs2.out (by have := Hl.out; omega)).mono ?_
  rintro e w3 ⟨A3, n3, c3, rfl, hs3, hb3⟩
  have Hs3 := Lib.hid hs3
  have hs1 := Hs1'.out.below hb3
  have Hs1'' := Lib.hid hs1
  have Hb3 := Lib.hid (Hb2.out.trans (hb3.mono Hb2.out.size))
  clear hs3 hb3 hs1
  go_wp2_with fail
  refine (chunk_any 10 0 _ l _ (by omega) (by omega) (by omega) (by omega) (Hs.out.below Hb3.out) (by have := Hl.out; omega)).mono ?_
  rintro e w4 ⟨A4, n4, c4, rfl, hs4, hb4⟩
  have Hs4 := Lib.hid hs4
  have hs1 := Hs1''.out.below hb4
  have Hs14 := Lib.hid hs1
  have hs3 := Hs3.out.below hb4
  have Hs34 := Lib.hid hs3
  have Hb4 := Lib.hid (Hb3.out.trans (hb4.mono Hb3.out.size))
  clear hs4 hb4 hs1 hs3
  go_wp2_with fail
  refine (same_any _ _ _ _ _ Hs14.out Hs4.out).mono ?_
  rintro e w5 ⟨rfl, rfl⟩
  rw [decide_eq_true (show chunk 10 0 l = chunk (Int.toNat 10) (Int.toNat 0) l from rfl)]
  go_wp2_with fail
  refine (same_any _ _ _ _ _ Hs34.out (Hs.out.below Hb4.out)).mono ?_
  rintro e w6 ⟨rfl, rfl⟩
  rw [decide_eq_true (rfl : l = l)]
  go_wp2
  go_ret
  exact ⟨rfl, Hb4.out⟩
end Go.Proofs.YtnaihmmfnffejaaDoor
