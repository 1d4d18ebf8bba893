/- Contracts on the road of FnEmptyIs, and its walk: chunks without a value. No condition. -/
import Derived.Test.YtnaihmmfnffejaaDoorHead
import Derived.RegionCalls
namespace Go.Proofs.YtnaihmmfnffejaaDoor
open Go.RowKit Go.Lib

/-- A call that returns bytes and no error, and changes at most block g of what was there. -/
def RetSlO (w : World) (g : Nat) (l : List UInt8) (e : Ending) (w' : World) : Prop := ∃ A n c, e = .returned (.tuple #[.slice A n c, .nilIface]) ∧ Sl w' (.slice A n c) l ∧ w.grownBy w' (some g)
/-- A call that returns bytes and true. -/
def RetSlB (w : World) (l : List UInt8) (e : Ending) (w' : World) : Prop := ∃ A n c, e = .returned (.tuple #[.slice A n c, .bool true]) ∧ Sl w' (.slice A n c) l ∧ Below w.heap.size w w'

theorem chunk_nil (typ : Nat) : chunk typ 0 [] = UInt8.ofNat typ :: 0 :: (be 2 (([] : List UInt8).length + 4) ++ []) := by simp [chunk]

theorem emarshal11 (gc : Nat) (t : TypeId) (w : World) (hr : Row w gc t [.int .u8 0, .int .u8 0, .slice none 0 0]) :
    Calls Tryd.prog 60 #[.pointer (some ⟨gc, 0, none⟩)] w (RetSlO w gc (chunk 11 0 [])) := by
  have h0 : w.cell? ⟨gc, 0, none⟩ = some (.int .u8 0) := by rw [hr.cell]; rfl
  have f0 := hr.frozen 0
  have Hr := Lib.hid hr
  clear hr
  go_enter Tryd.func60, Tryd.ntmps60
  go_wp2_with fail
  refine (hmarshal_any gc t 11 0 (.slice none 0 0) [] [] _ (Hr.out.set 0 _) (Sl.nil _) (by simp)).mono ?_
  rintro e w2 ⟨A, n, c, rfl, hs2, hb2⟩
  have Hs := Lib.hid hs2
  have Hb := Lib.hid hb2
  clear hs2 hb2
  go_wp2
  go_ret2
  refine ⟨A, n, c, rfl, by rw [chunk_nil]; exact Hs.out, only_below (only_setCell (only_refl _ _) (.inl rfl) _) Hb.out⟩
theorem emarshal8 (gc : Nat) (t : TypeId) (w : World) (hr : Row w gc t [.int .u8 0, .int .u8 0, .slice none 0 0]) :
    Calls Tryd.prog 61 #[.pointer (some ⟨gc, 0, none⟩)] w (RetSlO w gc (chunk 8 0 [])) := by
  have h0 : w.cell? ⟨gc, 0, none⟩ = some (.int .u8 0) := by rw [hr.cell]; rfl
  have f0 := hr.frozen 0
  have Hr := Lib.hid hr
  clear hr
  go_enter Tryd.func61, Tryd.ntmps61
  go_wp2_with fail
  refine (hmarshal_any gc t 8 0 (.slice none 0 0) [] [] _ (Hr.out.set 0 _) (Sl.nil _) (by simp)).mono ?_
  rintro e w2 ⟨A, n, c, rfl, hs2, hb2⟩
  have Hs := Lib.hid hs2
  have Hb := Lib.hid hb2
  clear hs2 hb2
  go_wp2
  go_ret2
  refine ⟨A, n, c, rfl, by rw [chunk_nil]; exact Hs.out, only_below (only_setCell (only_refl _ _) (.inl rfl) _) Hb.out⟩
theorem emarshal14 (gc : Nat) (t : TypeId) (w : World) (hr : Row w gc t [.int .u8 0, .int .u8 0, .slice none 0 0]) :
    Calls Tryd.prog 62 #[.pointer (some ⟨gc, 0, none⟩)] w (RetSlO w gc (chunk 14 0 [])) := by
  have h0 : w.cell? ⟨gc, 0, none⟩ = some (.int .u8 0) := by rw [hr.cell]; rfl
  have f0 := hr.frozen 0
  have Hr := Lib.hid hr
  clear hr
  go_enter Tryd.func62, Tryd.ntmps62
  go_wp2_with fail
  refine (hmarshal_any gc t 14 0 (.slice none 0 0) [] [] _ (Hr.out.set 0 _) (Sl.nil _) (by simp)).mono ?_
  rintro e w2 ⟨A, n, c, rfl, hs2, hb2⟩
  have Hs := Lib.hid hs2
  have Hb := Lib.hid hb2
  clear hs2 hb2
  go_wp2
  go_ret2
  refine ⟨A, n, c, rfl, by rw [chunk_nil]; exact Hs.out, only_below (only_setCell (only_refl _ _) (.inl rfl) _) Hb.out⟩

theorem zzempty_any (typ : Int) (w : World) (ht : typ = 8 ∨ typ = 11 ∨ typ = 14) :
    Calls Tryd.prog 39 #[.int .i64 typ] w (RetSlE w (chunk typ.toNat 0 [])) := by
  rcases ht with rfl | rfl | rfl
  · go_enter Tryd.func39, Tryd.ntmps39
    go_wp2_with fail
    refine (emarshal8 _ _ _ (Row.new w _ _)).mono ?_
    rintro e w2 ⟨A, n, c, rfl, hs2, hb2⟩
    have Hs := Lib.hid hs2
    have Hb := Lib.hid hb2
    clear hs2 hb2
    go_wp2
    go_ret2
    refine ⟨A, n, c, rfl, Hs.out, below_only ((Below.refl _ _).alloc (Nat.le_refl _) _) (by simp) Hb.out (Nat.le_refl _)⟩
  · go_enter Tryd.func39, Tryd.ntmps39
    go_wp2_with fail
    refine (emarshal11 _ _ _ (Row.new w _ _)).mono ?_
    rintro e w2 ⟨A, n, c, rfl, hs2, hb2⟩
    have Hs := Lib.hid hs2
    have Hb := Lib.hid hb2
    clear hs2 hb2
    go_wp2
    go_ret2
    refine ⟨A, n, c, rfl, Hs.out, below_only ((Below.refl _ _).alloc (Nat.le_refl _) _) (by simp) Hb.out (Nat.le_refl _)⟩
  · go_enter Tryd.func39, Tryd.ntmps39
    go_wp2_with fail
    refine (emarshal14 _ _ _ (Row.new w _ _)).mono ?_
    rintro e w2 ⟨A, n, c, rfl, hs2, hb2⟩
    have Hs := Lib.hid hs2
    have Hb := Lib.hid hb2
    clear hs2 hb2
    go_wp2
    go_ret2
    refine ⟨A, n, c, rfl, Hs.out, below_only ((Below.refl _ _).alloc (Nat.le_refl _) _) (by simp) Hb.out (Nat.le_refl _)⟩

theorem emptytext_any (typ : Int) (w : World) (ht : typ = 8 ∨ typ = 11 ∨ typ = 14) :
    Calls Tryd.prog 12 #[.int .i64 typ] w (RetSlB w (chunk typ.toNat 0 [])) := by
  go_enter Tryd.func12, Tryd.ntmps12
  go_wp2_with fail
  refine (zzempty_any typ w ht).mono ?_
  rintro e w2 ⟨A, n, c, rfl, hs2, hb2⟩
  have Hs := Lib.hid hs2
  have Hb := Lib.hid hb2
  clear hs2 hb2
  go_wp2_with fail
  go_region_with ((go_at_call 40; refine (copied_any _ _ _ Hs.out.drew (by simp [chunk_length])).mono ?_; rintro e w3 ⟨A3, n3, c3, rfl, hs3, hb3⟩))
  have Hs3 := Lib.hid hs3
  have Hb3 := Lib.hid hb3
  clear hs3 hb3
  go_wp2
  go_ret2
  exact ⟨A3, n3, c3, rfl, Hs3.out, Hb.out.drew.trans (Hb3.out.mono Hb.out.size)⟩

theorem ret_true {b : Bool} (h : b = true) : Ending.returned (.bool b) = .returned (.bool true) := by rw [h]
theorem fnEmpty_walk (typ : Int) (w : World) : Calls Tryd.prog 3 #[.int .i64 typ] w fun e w' => e = .returned (.bool true) ∧ Below w.heap.size w w' := by
  by_cases ht : typ = 8 ∨ typ = 11 ∨ typ = 14
  · rcases ht with rfl | rfl | rfl
    · go_enter Tryd.func3, Tryd.ntmps3
      go_wp2_with fail
      refine (emptytext_any 8 w (by simp)).mono ?_
      rintro e w2 ⟨A, n, c, rfl, hs2, hb2⟩
      have Hs := Lib.hid hs2
      have Hb := Lib.hid hb2
      clear hs2 hb2
      go_wp2_with fail
      refine (chunk_any 8 0 _ [] _ (by omega) (by omega) (by omega) (by omega) (Sl.nil _) (by simp)).mono ?_
      rintro e w3 ⟨A3, n3, c3, rfl, hs3, hb3⟩
      have Hs3 := Lib.hid hs3
      have Hb3 := Lib.hid hb3
      clear hs3 hb3
      go_wp2_with fail
      refine (same_any _ _ _ _ _ (Hs.out.below Hb3.out) Hs3.out).mono ?_
      rintro e w4 ⟨rfl, rfl⟩
      go_wp2
      go_ret
      exact ⟨ret_true (by simp), Hb.out.trans (Hb3.out.mono Hb.out.size)⟩
    · go_enter Tryd.func3, Tryd.ntmps3
      go_wp2_with fail
      refine (emptytext_any 11 w (by simp)).mono ?_
      rintro e w2 ⟨A, n, c, rfl, hs2, hb2⟩
      have Hs := Lib.hid hs2
      have Hb := Lib.hid hb2
      clear hs2 hb2
      go_wp2_with fail
      refine (chunk_any 11 0 _ [] _ (by omega) (by omega) (by omega) (by omega) (Sl.nil _) (by simp)).mono ?_
      rintro e w3 ⟨A3, n3, c3, rfl, hs3, hb3⟩
      have Hs3 := Lib.hid hs3
      have Hb3 := Lib.hid hb3
      clear hs3 hb3
      go_wp2_with fail
      refine (same_any _ _ _ _ _ (Hs.out.below Hb3.out) Hs3.out).mono ?_
      rintro e w4 ⟨rfl, rfl⟩
      go_wp2
      go_ret
      exact ⟨ret_true (by simp), Hb.out.trans (Hb3.out.mono Hb.out.size)⟩
    · go_enter Tryd.func3, Tryd.ntmps3
      go_wp2_with fail
      refine (emptytext_any 14 w (by simp)).mono ?_
      rintro e w2 ⟨A, n, c, rfl, hs2, hb2⟩
      have Hs := Lib.hid hs2
      have Hb := Lib.hid hb2
      clear hs2 hb2
      go_wp2_with fail
      refine (chunk_any 14 0 _ [] _ (by omega) (by omega) (by omega) (by omega) (Sl.nil _) (by simp)).mono ?_
      rintro e w3 ⟨A3, n3, c3, rfl, hs3, hb3⟩
      have Hs3 := Lib.hid hs3
      have Hb3 := Lib.hid hb3
      clear hs3 hb3
      go_wp2_with fail
      refine (same_any _ _ _ _ _ (Hs.out.below Hb3.out) Hs3.out).mono ?_
      rintro e w4 ⟨rfl, rfl⟩
      go_wp2
      go_ret
      exact ⟨ret_true (by simp), Hb.out.trans (Hb3.out.mono Hb.out.size)⟩
  · have h8 : (typ != 8) = true := by rw [bne_iff_ne]; omega
    have h11 : (typ != 11) = true := by rw [bne_iff_ne]; omega
    have h14 : (typ != 14) = true := by rw [bne_iff_ne]; omega
    clear ht
    go_enter Tryd.func3, Tryd.ntmps3
    go_wp2
    go_ret
    exact ⟨rfl, Below.refl _ _⟩
end Go.Proofs.YtnaihmmfnffejaaDoor
