/- The walks of FnChunkIs and FnChunkCut. Conditions: the sentinels read as errors (FnChunkCut). -/
import Derived.Test.YtnaihmmfnffejaaDoorCut
namespace Go.Proofs.YtnaihmmfnffejaaDoor
open Go.RowKit Go.Lib

theorem Sl.take {w : World} {A : Option Addr} {n c : Nat} {l : List UInt8} (h : Sl w (.slice A n c) l) (k : Nat) (hk : k ≤ n) : Sl w (.slice A k c) (l.take k) := by
  have hn := h.len
  obtain ⟨A', c', hv, hnc, hcm, hl0, h0, hc⟩ := h
  injection hv with e1 e2 e3
  subst e1 e3
  have hlen : (l.take k).length = k := by simp; omega
  refine ⟨_, _, by rw [hlen], by rw [hlen]; omega, by omega, by simp [bvs], h0, fun hp => ?_⟩
  rw [hlen] at hp
  obtain ⟨g, o, hA, hg⟩ := hc (by omega)
  refine ⟨g, o, hA, fun j u hu => hg j u ?_⟩
  rw [← hu]
  simp only [bvs, List.map_take, List.getElem?_take]
  rw [if_pos]
  have := (List.getElem?_eq_some_iff.1 hu).1
  rw [bvs_length, hlen] at this
  exact this
theorem ofNat_byte (n : Int) (h0 : 0 ≤ n) (h1 : n ≤ 255) : ((UInt8.ofNat n.toNat).toNat : Int) = n := by
  rw [UInt8.toNat_ofNat']; omega
theorem chunk_hd (typ flags : Nat) (l : List UInt8) : chunk typ flags l = hd (UInt8.ofNat typ) (UInt8.ofNat flags) l 0 := by simp [chunk, hd]
theorem padded_hd (typ flags : Nat) (l : List UInt8) : padded (chunk typ flags l) = hd (UInt8.ofNat typ) (UInt8.ofNat flags) l (padN (4 + l.length)) := by simp [padded, chunk_length]; simp [chunk, hd]

def ChunkIs (w : World) (typ flags : Int) (l : List UInt8) (e : Ending) (w' : World) : Prop :=
  ∃ A n c, e = .returned (.tuple #[.int .i64 typ, .int .i64 flags, .slice A n c, .bool true]) ∧ Sl w' (.slice A n c) l ∧ Below w.heap.size w w'
theorem chunkRead_is (typ flags : Int) (A : Option Addr) (n c : Nat) (l : List UInt8) (k : Nat) (w : World) (ht0 : 0 ≤ typ) (ht : typ ≤ 255) (hf0 : 0 ≤ flags) (hf : flags ≤ 255)
    (hs : Sl w (.slice A n c) (hd (UInt8.ofNat typ.toNat) (UInt8.ofNat flags.toNat) l k)) (hl : l.length ≤ 65531) (hk : k ≤ 3) :
    Calls Tryd.prog 15 #[.slice A n c] w (ChunkIs w typ flags l) := by
  refine (chunkRead_ok A n c _ _ l k w hs hl hk).mono ?_
  rintro e w' ⟨A2, n2, c2, rfl, h2⟩
  exact ⟨A2, n2, c2, by rw [ofNat_byte _ ht0 ht, ofNat_byte _ hf0 hf], h2⟩

theorem fnChunkIs_out (typ flags : Int) (A : Option Addr) (n c : Nat) (B : Option Addr) (m d : Nat) (w : World)
    (h : typ < 0 ∨ typ > 255 ∨ flags < 0 ∨ flags > 255 ∨ n > 4096 ∨ m > 4096) :
    Calls Tryd.prog 5 #[.int .i64 typ, .int .i64 flags, .slice A n c, .slice B m d] w fun e w' => e = .returned (.bool true) ∧ Below w.heap.size w w' := by
  by_cases h1 : n > 2147483647
  · have h1' : (n : Int) > 2147483647 := by omega
    clear h
    go_enter Tryd.func5, Tryd.ntmps5
    go_wp2
    go_ret
    exact ⟨rfl, Below.refl _ _⟩
  by_cases h2 : m > 2147483647
  · have h1' : ¬ (n : Int) > 2147483647 := by omega
    have h2' : (m : Int) > 2147483647 := by omega
    clear h
    go_enter Tryd.func5, Tryd.ntmps5
    go_wp2
    go_ret
    exact ⟨rfl, Below.refl _ _⟩
  have h1' : ¬ (n : Int) > 2147483647 := by omega
  have h2' : ¬ (m : Int) > 2147483647 := by omega
  have h' : typ < 0 ∨ typ > 255 ∨ flags < 0 ∨ flags > 255 ∨ (n : Int) > 4096 ∨ (m : Int) > 4096 := by omega
  clear h h1 h2
  rcases h' with h | h | h | h | h | h
  all_goals
    go_enter Tryd.func5, Tryd.ntmps5
    go_wp2
    all_goals
      go_ret
      exact ⟨rfl, Below.refl _ _⟩

theorem fnChunkIs_in (typ flags : Int) (A : Option Addr) (n c : Nat) (B : Option Addr) (m d : Nat) (l : List UInt8) (w : World) (hs : Sl w (.slice A n c) l)
    (ht0 : 0 ≤ typ) (ht : typ ≤ 255) (hf0 : 0 ≤ flags) (hf : flags ≤ 255) (hn : (n : Int) ≤ 4096) (hm : (m : Int) ≤ 4096) :
    Calls Tryd.prog 5 #[.int .i64 typ, .int .i64 flags, .slice A n c, .slice B m d] w fun e w' => e = .returned (.bool true) ∧ Below w.heap.size w w' := by
  have hl := hs.len
  have Hl := Lib.hid hl
  have Hs := Lib.hid hs
  clear hs hl
  go_enter Tryd.func5, Tryd.ntmps5
  go_wp2_with fail
  refine (chunk_any typ flags _ l _ ht0 ht hf0 hf Hs.out (by have := Hl.out; omega)).mono ?_
  rintro e w1 ⟨A1, n1, c1, rfl, hs1, hb1⟩
  have Hs1 := Lib.hid hs1
  have Hb1 := Lib.hid hb1
  clear hs1 hb1
  go_wp2_with fail
  refine (padded_any _ _ _ Hs1.out (by have := Hl.out; simp [chunk_length]; omega)).mono ?_
  rintro e w2 ⟨A2, n2, c2, rfl, hs2, hb2⟩
  rw [padded_hd] at hs2
  have Hs2 := Lib.hid hs2
  have Hb2 := Lib.hid (Hb1.out.trans (hb2.mono Hb1.out.size))
  clear hs2 hb2
  go_wp2_with fail
  refine (chunkRead_is typ flags _ _ _ _ _ _ ht0 ht hf0 hf Hs2.out (by have := Hl.out; omega) (by have := padN_lt (4 + l.length); omega)).mono ?_
  rintro e w3 ⟨A3, n3, c3, rfl, hs3, hb3⟩
  have Hs3 := Lib.hid hs3
  have Hb3 := Lib.hid (Hb2.out.trans (hb3.mono Hb2.out.size))
  clear hs3 hb3
  go_wp2_with fail
  refine (same_any _ _ _ _ _ Hs3.out (Hs.out.below Hb3.out)).mono ?_
  rintro e w4 ⟨rfl, rfl⟩
  rw [decide_eq_true (rfl : l = l)]
  go_wp2_with fail
  refine (chunktext_any typ flags _ l _ ht0 ht hf0 hf (Hs.out.below Hb3.out) (by have := Hl.out; omega)).mono ?_
  rintro e w5 ⟨A5, n5, c5, rfl, hs5, hb5⟩
  have Hs5 := Lib.hid hs5
  have Hb5 := Lib.hid (Hb3.out.trans (hb5.mono Hb3.out.size))
  clear hs5 hb5
  go_wp2_with fail
  refine (chunk_any typ flags _ l _ ht0 ht hf0 hf (Hs.out.below Hb5.out) (by have := Hl.out; omega)).mono ?_
  rintro e w6 ⟨A6, n6, c6, rfl, hs6, hb6⟩
  have Hs6 := Lib.hid hs6
  have hs5 := Hs5.out.below hb6
  have Hb6 := Lib.hid (Hb5.out.trans (hb6.mono Hb5.out.size))
  have Hs5' := Lib.hid hs5
  clear hs6 hb6 hs5
  go_wp2_with fail
  refine (same_any _ _ _ _ _ Hs5'.out Hs6.out).mono ?_
  rintro e w7 ⟨rfl, rfl⟩
  rw [decide_eq_true (rfl : chunk typ.toNat flags.toNat l = chunk typ.toNat flags.toNat l)]
  go_wp2
  go_ret
  exact ⟨rfl, Hb6.out⟩

theorem fnChunkIs_walk (typ flags : Int) (A : Option Addr) (n c : Nat) (B : Option Addr) (m d : Nat) (l : List UInt8) (w : World) (hs : Sl w (.slice A n c) l) :
    Calls Tryd.prog 5 #[.int .i64 typ, .int .i64 flags, .slice A n c, .slice B m d] w fun e w' => e = .returned (.bool true) ∧ Below w.heap.size w w' := by
  by_cases h : typ < 0 ∨ typ > 255 ∨ flags < 0 ∨ flags > 255 ∨ n > 4096 ∨ m > 4096
  · exact fnChunkIs_out typ flags A n c B m d w h
  · exact fnChunkIs_in typ flags A n c B m d l w hs (by omega) (by omega) (by omega) (by omega) (by omega) (by omega)

set_option maxHeartbeats 800000 in
theorem fnChunkCut_out (typ flags : Int) (A : Option Addr) (n c : Nat) (k : Int) (w : World)
    (h : typ < 0 ∨ typ > 255 ∨ flags < 0 ∨ flags > 255 ∨ n > 4096 ∨ k < 0 ∨ k ≥ 4 + (n : Int)) :
    Calls Tryd.prog 4 #[.int .i64 typ, .int .i64 flags, .slice A n c, .int .i64 k] w fun e w' => e = .returned (.bool true) ∧ Below w.heap.size w w' := by
  by_cases h1 : n > 2147483647
  · have h1' : (n : Int) > 2147483647 := by omega
    clear h
    go_enter Tryd.func4, Tryd.ntmps4
    go_wp2
    go_ret
    exact ⟨rfl, Below.refl _ _⟩
  have h1' : ¬ (n : Int) > 2147483647 := by omega
  have h' : typ < 0 ∨ typ > 255 ∨ flags < 0 ∨ flags > 255 ∨ (n : Int) > 4096 ∨ k < 0 ∨ k ≥ 4 + (n : Int) := by omega
  clear h h1
  rcases h' with h | h | h | h | h | h | h
  all_goals
    go_enter Tryd.func4, Tryd.ntmps4
    go_wp2
    all_goals
      go_ret
      exact ⟨rfl, Below.refl _ _⟩

theorem fnChunkCut_in (typ flags : Int) (A : Option Addr) (n c : Nat) (k : Nat) (l : List UInt8) (w : World) (he : Errs w) (hs : Sl w (.slice A n c) l)
    (ht0 : 0 ≤ typ) (ht : typ ≤ 255) (hf0 : 0 ≤ flags) (hf : flags ≤ 255) (hn : (n : Int) ≤ 4096) (hk : (k : Int) < 4 + (n : Int)) :
    Calls Tryd.prog 4 #[.int .i64 typ, .int .i64 flags, .slice A n c, .int .i64 k] w fun e w' => e = .returned (.bool true) ∧ Below w.heap.size w w' := by
  have hl := hs.len
  have Hl := Lib.hid hl
  have Hs := Lib.hid hs
  have He := Lib.hid he
  clear hs hl he
  go_enter Tryd.func4, Tryd.ntmps4
  go_wp2_with fail
  refine (chunk_any typ flags _ l _ ht0 ht hf0 hf Hs.out (by have := Hl.out; omega)).mono ?_
  rintro e w1 ⟨A1, n1, c1, rfl, hs1, hb1⟩
  have Hs1 := Lib.hid hs1
  have Hb1 := Lib.hid hb1
  have hn1 := hs1.len
  have hcap : n1 ≤ c1 := by
    obtain ⟨_, _, hv, h1, _⟩ := hs1
    injection hv with e1 e2 e3
    omega
  have hk1 : (k : Int) ≤ (c1 : Int) := by rw [chunk_length] at hn1; have := Hl.out; omega
  have Hn1 := Lib.hid hn1
  clear hs1 hb1 hn1
  go_wp2_with fail
  have hcut : Sl w1 (.slice A1 k c1) ((chunk typ.toNat flags.toNat l).take k) := Hs1.out.take k (by have hn1 := Hn1.out; have := Hl.out; rw [chunk_length] at hn1; omega)
  refine (chunkRead_no _ _ _ _ _ _ _ _ (He.out.below Hb1.out) hcut (by have := Hl.out; omega) (by have := Hl.out; omega)).mono ?_
  rintro e w2 ⟨⟨v, rfl⟩, hb2⟩
  have hs2 := Hs1.out.below hb2
  rw [chunk_hd] at hs2
  have Hs2 := Lib.hid hs2
  have Hb2 := Lib.hid (Hb1.out.trans (hb2.mono Hb1.out.size))
  clear hb2 hs2 hcut
  go_wp2_with fail
  refine (chunkRead_is typ flags _ _ _ _ _ _ ht0 ht hf0 hf Hs2.out (by have := Hl.out; omega) (by omega)).mono ?_
  rintro e w3 ⟨A3, n3, c3, rfl, hs3, hb3⟩
  have Hb3 := Lib.hid (Hb2.out.trans (hb3.mono Hb2.out.size))
  clear hs3 hb3
  go_wp2
  go_ret
  exact ⟨rfl, Hb3.out⟩

theorem fnChunkCut_walk (typ flags : Int) (A : Option Addr) (n c : Nat) (k : Int) (l : List UInt8) (w : World) (he : Errs w) (hs : Sl w (.slice A n c) l) :
    Calls Tryd.prog 4 #[.int .i64 typ, .int .i64 flags, .slice A n c, .int .i64 k] w fun e w' => e = .returned (.bool true) ∧ Below w.heap.size w w' := by
  by_cases h : typ < 0 ∨ typ > 255 ∨ flags < 0 ∨ flags > 255 ∨ n > 4096 ∨ k < 0 ∨ k ≥ 4 + (n : Int)
  · exact fnChunkCut_out typ flags A n c k w h
  · obtain ⟨m, rfl⟩ := Int.eq_ofNat_of_zero_le (show 0 ≤ k by omega)
    exact fnChunkCut_in typ flags A n c m l w he hs (by omega) (by omega) (by omega) (by omega) (by omega) (by omega)
end Go.Proofs.YtnaihmmfnffejaaDoor
