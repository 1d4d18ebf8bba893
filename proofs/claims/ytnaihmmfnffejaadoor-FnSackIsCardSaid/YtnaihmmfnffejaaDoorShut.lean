/- Contracts on the road of FnShutdownIs, and its walk. No condition. -/
import Derived.Test.YtnaihmmfnffejaaDoorCookie
namespace Go.Proofs.YtnaihmmfnffejaaDoor
open Go.RowKit Go.Lib

theorem put_whole (l m : List UInt8) (h : m.length = l.length) : put l 0 m = m := by
  simp only [put, List.take_zero, List.nil_append, Nat.zero_add]
  rw [List.drop_of_length_le (by omega)]
  simp

set_option maxRecDepth 20000 in
theorem shmarshal (gc : Nat) (t : TypeId) (v : Int) (w : World) (hr : Row w gc t [.int .u8 0, .int .u8 0, .slice none 0 0, .int .u32 v]) (hv0 : 0 ≤ v) (hv : v ≤ 4294967295) :
    Calls Tryd.prog 67 #[.pointer (some ⟨gc, 0, none⟩)] w (RetSlO w gc (chunk 7 0 (be 4 v.toNat))) := by
  have hgc := hr.lt
  have h3 : w.cell? ⟨gc, 3, none⟩ = some (.int .u32 v) := by rw [hr.cell]; rfl
  have Hr := Lib.hid hr
  clear hr
  go_enter Tryd.func67, Tryd.ntmps67
  go_wp2_with (at_make; refine wpList_make_row _ rfl _ _ _ rfl bT rfl _ _ _ _ 4 rfl rfl (by rfl) (by rfl) (by omega) (by unfold maxLen; omega) ?_)
  intro w1 hrow hb1
  have hr1 : Row w1 gc t [.int .u8 0, .int .u8 0, .slice none 0 0, .int .u32 v] := Hr.out.below hb1 hgc
  have hrow' : Row w1 w.heap.size 5 (bvs (List.replicate 4 0)) := by rw [bvs_zero]; exact hrow
  have k3 := (hb1.cell (p := ⟨gc, 3, none⟩) hgc).trans h3
  have Hr1 := Lib.hid hr1
  have Hrow := Lib.hid hrow'
  have Hb1 := Lib.hid hb1
  clear hr1 hrow' hrow hb1 h3
  go_wp2_with fail
  refine wp_region_tail 7 (by kernel_rfl) (by kernel_rfl) ?_
  simp only [List.take_succ_cons, List.take_zero, List.drop_succ_cons, List.drop_zero]
  repeat still_step
  refine wpStill_nil ?_
  go_wp2_with fail
  refine (put32_any _ 0 _ _ _ _ _ w1.drew Hrow.out.drew (by simp) (by omega) hv0 hv).mono ?_
  rintro e w2 ⟨rfl, hP2⟩
  rw [put_whole _ _ (by simp [be_length])] at hP2
  have hne : ¬ gc = w.heap.size := by omega
  have hr2 : Row w2 gc t [.int .u8 0, .int .u8 0, .slice none 0 0, .int .u32 v] := Hr1.out.drew.grown hP2.2 (by intro e; injection e with e; exact hne e)
  have hb2 : Below w.heap.size w w2 := below_only Hb1.out.drew Hb1.out.size hP2.2 (Nat.le_refl _)
  have hs2 : Sl w2 (.slice (some ⟨w.heap.size, 0, none⟩) 4 4) (be 4 v.toNat) := hP2.1.sl (be_length _ _) (by omega) (by unfold maxLen; omega)
  have h0 : w2.cell? ⟨gc, 0, none⟩ = some (.int .u8 0) := by rw [hr2.cell]; rfl
  have h2 : w2.cell? ⟨gc, 2, none⟩ = some (.slice none 0 0) := by rw [hr2.cell]; rfl
  have f0 := hr2.frozen 0
  have f2 := hr2.frozen 2
  have Hr2 := Lib.hid hr2
  have Hb2 := Lib.hid hb2
  have Hs2 := Lib.hid hs2
  clear hr2 hb2 hs2 hP2 k3
  go_wp2_with fail
  have hW : Row ((w2.setCell ⟨gc, 0, none⟩ (.int .u8 7)).setCell ⟨gc, 2, none⟩ (.slice (some ⟨w.heap.size, 0, none⟩) 4 4)) gc t [.int .u8 7, .int .u8 0, .slice (some ⟨w.heap.size, 0, none⟩) 4 4, .int .u32 v] := (Hr2.out.set 0 _).set 2 _
  have hg : w2.grownBy ((w2.setCell ⟨gc, 0, none⟩ (.int .u8 7)).setCell ⟨gc, 2, none⟩ (.slice (some ⟨w.heap.size, 0, none⟩) 4 4)) (some gc) :=
    only_setCell (p := ⟨gc, 2, none⟩) (only_setCell (p := ⟨gc, 0, none⟩) (only_refl _ _) (.inl rfl) _) (.inl rfl) _
  refine (hmarshal_any gc t 7 0 _ [_] _ _ hW (Hs2.out.only hg (fun A n c e => by cases e; exact fun e => hne e.symm)) (by simp [be_length])).mono ?_
  rintro e w3 ⟨A3, n3, c3, rfl, hs3, hb3⟩
  have Hs3 := Lib.hid hs3
  have Hg3 := Lib.hid (only_trans (grown_of_below Hb2.out (some gc)) (only_below hg hb3))
  clear hs3 hb3 hW hg
  go_wp2
  go_ret2
  exact ⟨A3, n3, c3, rfl, by rw [chunk_rev]; exact Hs3.out, Hg3.out⟩

theorem zzshuttext_any (v : Int) (w : World) (hv0 : 0 ≤ v) (hv : v ≤ 4294967295) :
    Calls Tryd.prog 48 #[.int .u32 v] w (RetSlE w (chunk 7 0 (be 4 v.toNat))) := by
  go_enter Tryd.func48, Tryd.ntmps48
  go_wp2_with fail
  refine (shmarshal w.heap.size _ v _ (Row.new w _ _) hv0 hv).mono ?_
  rintro e w2 ⟨A2, n2, c2, rfl, hs2, hg2⟩
  have hb2 : Below w.heap.size w w2 := below_only ((Below.refl _ _).alloc (Nat.le_refl _) _) (by simp) hg2 (Nat.le_refl _)
  have Hs2 := Lib.hid hs2
  have Hb2 := Lib.hid hb2
  clear hs2 hg2 hb2
  go_wp2
  go_ret2
  exact ⟨A2, n2, c2, rfl, Hs2.out, Hb2.out⟩

theorem shuttext_any (v : Int) (w : World) (hv0 : 0 ≤ v) (hv : v ≤ 4294967295) :
    Calls Tryd.prog 20 #[.int .u32 v] w (RetSlB w (chunk 7 0 (be 4 v.toNat))) := by
  go_enter Tryd.func20, Tryd.ntmps20
  go_wp2_with fail
  refine (zzshuttext_any v _ hv0 hv).mono ?_
  rintro e w2 ⟨A2, n2, c2, rfl, hs2, hb2⟩
  have Hs2 := Lib.hid hs2
  have Hb2 := Lib.hid hb2
  clear hs2 hb2
  go_wp2_with fail
  go_region_with ((go_at_call 40; refine (copied_any _ _ _ Hs2.out.drew (by simp [chunk_length, be_length])).mono ?_; rintro e w3 ⟨A3, n3, c3, rfl, hs3, hb3⟩))
  have Hs3 := Lib.hid hs3
  have Hb3 := Lib.hid hb3
  clear hs3 hb3
  go_wp2
  go_ret2
  exact ⟨A3, n3, c3, rfl, Hs3.out, Hb2.out.drew.trans (Hb3.out.mono Hb2.out.size)⟩

set_option maxRecDepth 20000 in
theorem shunmarshal (gc : Nat) (t : TypeId) (A : Option Addr) (n c : Nat) (v : Nat) (w : World) (hr : Row w gc t [.int .u8 0, .int .u8 0, .slice none 0 0, .int .u32 0]) (hs : Sl w (.slice A n c) (chunk 7 0 (be 4 v))) (hf : Far (.slice A n c) gc) (hv : v < 4294967296) :
    Calls Tryd.prog 68 #[.pointer (some ⟨gc, 0, none⟩), .slice A n c] w fun e w' =>
      e = .returned .nilIface ∧ w'.cell? ⟨gc, 3, none⟩ = some (.int .u32 v) ∧ w.grownBy w' (some gc) := by
  rw [chunk_hd0] at hs
  have Hr := Lib.hid hr
  have Hs := Lib.hid hs
  have Hf := Lib.hid hf
  clear hr hs hf
  go_enter Tryd.func68, Tryd.ntmps68
  go_wp2_with fail
  refine (hunmarshal_ok gc t _ _ _ [_] A n c _ _ (be 4 v) 0 _ Hr.out Hs.out Hf.out (by simp [be_length]) (by omega)).mono ?_
  rintro e w2 ⟨A2, n2, c2, rfl, hr2, hs2, hf2, hg2⟩
  have hn2 := hs2.len
  rw [be_length] at hn2
  subst hn2
  have x0 : w2.cell? ⟨gc, 0, none⟩ = some (.int .u8 7) := by rw [hr2.cell]; rfl
  have x2 : w2.cell? ⟨gc, 2, none⟩ = some (.slice A2 4 c2) := by rw [hr2.cell]; rfl
  have x3 : w2.cell? ⟨gc, 3, none⟩ = some (.int .u32 0) := by rw [hr2.cell]; rfl
  have f3 := hr2.frozen 3
  have hlt := hr2.lt
  have hcc : ¬ c2 = 0 := by
    obtain ⟨_, _, hv, h1, _⟩ := hs2
    injection hv with e1 e2 e3
    simp [be_length] at h1
    omega
  have Hr2 := Lib.hid hr2
  have Hs2 := Lib.hid hs2
  have Hf2 := Lib.hid hf2
  have Hg2 := Lib.hid hg2
  clear hr2 hs2 hf2 hg2
  go_wp2_with fail
  have H2 : Sl w2.drew (.slice A2 4 c2) [UInt8.ofNat (v / 16777216), UInt8.ofNat (v / 65536), UInt8.ofNat (v / 256), UInt8.ofNat v] := by
    have := Hs2.out
    rw [be_four] at this
    exact this
  have hx : ne [UInt8.ofNat (v / 16777216), UInt8.ofNat (v / 65536), UInt8.ofNat (v / 256), UInt8.ofNat v] = v := by
    have h := ne_be_four v hv
    rwa [be_four] at h
  go_region_with ((go_at_call 80; refine (get32_any _ _ _ _ _ _ _ _ _ H2).mono ?_; rintro e w3 ⟨rfl, hb3⟩; have hr3 := Hr2.out.drew.below hb3 hlt; have y3 : w3.cell? ⟨gc, 3, none⟩ = some (.int .u32 0) := (by rw [hr3.cell]; rfl); have g3 := hr3.frozen 3))
  all_goals
    go_wp2
    go_ret
    exact ⟨rfl, (hr3.set 3 _).cell 3, only_setCell (p := ⟨gc, 3, none⟩) (only_below (only_drew Hg2.out) hb3) (.inl rfl) _⟩

theorem zzshutof_any (A : Option Addr) (n c : Nat) (v : Nat) (w : World) (hs : Sl w (.slice A n c) (chunk 7 0 (be 4 v))) (hv : v < 4294967296) :
    Calls Tryd.prog 49 #[.slice A n c] w fun e w' => e = .returned (.tuple #[.int .u32 v, .nilIface]) ∧ Below w.heap.size w w' := by
  have hf : Far (.slice A n c) w.heap.size := hs.far (by rw [chunk_length]; omega) (Nat.le_refl _)
  have Hs := Lib.hid hs
  have Hf := Lib.hid hf
  have Hv := Lib.hid hv
  clear hs hf hv
  go_enter Tryd.func49, Tryd.ntmps49
  go_wp2_with fail
  refine (shunmarshal w.heap.size _ A n c v _ (Row.new w _ _) (Hs.out.alloc _) Hf.out Hv.out).mono ?_
  rintro e w2 ⟨rfl, x3, hg2⟩
  have hb2 : Below w.heap.size w w2 := below_only ((Below.refl _ _).alloc (Nat.le_refl _) _) (by simp) hg2 (Nat.le_refl _)
  have Hb2 := Lib.hid hb2
  clear hg2 hb2
  go_wp2
  go_ret2
  exact ⟨rfl, Hb2.out⟩

theorem shutof_any (u : Value) (v : Nat) (w : World) (hs : Sl w u (chunk 7 0 (be 4 v))) (hv : v < 4294967296) :
    Calls Tryd.prog 21 #[u] w fun e w' => e = .returned (.tuple #[.int .u32 v, .bool true]) ∧ Below w.heap.size w w' := by
  have Hs := Lib.hid hs
  have Hv := Lib.hid hv
  clear hs hv
  go_enter Tryd.func21, Tryd.ntmps21
  go_wp2_with fail
  refine (copied_any _ _ _ Hs.out (by simp [chunk_length, be_length])).mono ?_
  rintro e w1 ⟨A1, n1, c1, rfl, hs1, hb1⟩
  have Hs1 := Lib.hid hs1
  have Hb1 := Lib.hid hb1
  clear hs1 hb1
  go_wp2_with fail
  refine (zzshutof_any A1 n1 c1 v _ Hs1.out Hv.out).mono ?_
  rintro e w2 ⟨rfl, hb2⟩
  have Hb2 := Lib.hid (Hb1.out.trans (hb2.mono Hb1.out.size))
  clear hb2
  go_wp2_with fail
  go_quiet (fail)
  go_wp2
  go_ret2
  exact ⟨rfl, below_drewN Hb2.out _⟩

theorem fnShutdownIs_walk (v : Int) (w : World) (hv0 : 0 ≤ v) (hv : v ≤ 4294967295) :
    Calls Tryd.prog 7 #[.int .u32 v] w fun e w' => e = .returned (.bool true) ∧ Below w.heap.size w w' := by
  go_enter Tryd.func7, Tryd.ntmps7
  go_wp2_with fail
  have hlit : Sl (w.alloc (.cells #[.int .u8 (v / 16777216), .int .u8 (v / 65536 % 256), .int .u8 (v / 256 % 256), .int .u8 (v % 256)] 5)) (.slice (some ⟨w.heap.size, 0, none⟩) 4 4) (be 4 v.toNat) := by
    have h := Rd.lit w 5 [.int .u8 (v / 16777216), .int .u8 (v / 65536 % 256), .int .u8 (v / 256 % 256), .int .u8 (v % 256)] 4 rfl (by omega)
    rw [byte_div v hv0 16777216 (v / 16777216) (by omega), byte_div v hv0 65536 (v / 65536 % 256) (by omega), byte_div v hv0 256 (v / 256 % 256) (by omega), byte_mod v hv0 (v % 256) rfl] at h ⊢
    rw [be_four]
    exact h
  refine (chunk_any 7 0 _ _ _ (by omega) (by omega) (by omega) (by omega) hlit (by simp [be_length])).mono ?_
  rintro e w1 ⟨A1, n1, c1, rfl, hs1, hb1⟩
  have Hs1 := Lib.hid hs1
  have Hb1 := Lib.hid (((Below.refl w.heap.size w).alloc (Nat.le_refl _) (.cells #[.int .u8 (v / 16777216), .int .u8 (v / 65536 % 256), .int .u8 (v / 256 % 256), .int .u8 (v % 256)] 5)).trans (hb1.mono (by simp)))
  clear hs1 hb1 hlit
  go_wp2_with fail
  refine (shuttext_any v _ hv0 hv).mono ?_
  rintro e w2 ⟨A2, n2, c2, rfl, hs2, hb2⟩
  have Hs2 := Lib.hid hs2
  have hs1 := Hs1.out.below hb2
  have Hs1' := Lib.hid hs1
  have Hb2 := Lib.hid (Hb1.out.trans (hb2.mono Hb1.out.size))
  clear hs2 hb2 hs1
  go_wp2_with fail
  refine (shutof_any _ v.toNat _ Hs1'.out (by omega)).mono ?_
  rintro e w3 ⟨rfl, hb3⟩
  have hv' : ((v.toNat : Nat) : Int) = v := by omega
  rw [hv']
  have Hv' := Lib.hid hv'
  have hs1 := Hs1'.out.below hb3
  have hs2 := Hs2.out.below hb3
  have Hs13 := Lib.hid hs1
  have Hs23 := Lib.hid hs2
  have Hb3 := Lib.hid (Hb2.out.trans (hb3.mono Hb2.out.size))
  clear hs1 hs2 hb3 hv'
  go_wp2_with fail
  refine (same_any _ _ _ _ _ Hs23.out Hs13.out).mono ?_
  rintro e w4 ⟨rfl, rfl⟩
  rw [decide_eq_true (show chunk 7 0 (be 4 v.toNat) = chunk (Int.toNat 7) (Int.toNat 0) (be 4 v.toNat) from rfl)]
  go_wp2
  go_ret
  exact ⟨rfl, Hb3.out⟩
end Go.Proofs.YtnaihmmfnffejaaDoor
