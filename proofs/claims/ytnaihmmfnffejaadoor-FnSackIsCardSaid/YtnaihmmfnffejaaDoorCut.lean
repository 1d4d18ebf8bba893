/- A cut chunk is refused: contracts of ZZChunk and Chunk there; ZZChunkText and ChunkText. Conditions: the sentinels read as errors; the length fits 16 bits. -/
import Derived.Test.YtnaihmmfnffejaaDoorChk
namespace Go.Proofs.YtnaihmmfnffejaaDoor
open Go.RowKit Go.Lib

/-- The two errors of the header's unmarshal stand. -/
def Errs (w : World) : Prop := (∃ u x, w.cell? ⟨2, 0, none⟩ = some (.iface u x)) ∧ ∃ u x, w.cell? ⟨4, 0, none⟩ = some (.iface u x)
theorem Errs.below {w w' : World} (h : Errs w) (hb : Below w.heap.size w w') : Errs w' := by
  obtain ⟨⟨u, x, h1⟩, ⟨v, y, h2⟩⟩ := h
  exact ⟨⟨u, x, (hb.cell (World.block_lt_of_cell? w _ h1)).trans h1⟩, ⟨v, y, (hb.cell (World.block_lt_of_cell? w _ h2)).trans h2⟩⟩
theorem Errs.alloc {w : World} (h : Errs w) (o : Obj) : Errs (w.alloc o) := h.below ((Below.refl _ _).alloc (Nat.le_refl _) _)

theorem zzchunk_no (A : Option Addr) (n c : Nat) (typ flags : Nat) (l : List UInt8) (k : Nat) (w : World) (he : Errs w) (hs : Sl w (.slice A n c) ((chunk typ flags l).take k)) (hl : l.length ≤ 65531) (hk : k < 4 + l.length) :
    Calls Tryd.prog 43 #[.slice A n c] w (ChunkNo w) := by
  have Hs := Lib.hid hs
  have He := Lib.hid he
  clear hs he
  go_enter Tryd.func43, Tryd.ntmps43
  go_wp2_with fail
  have hcall : Calls Tryd.prog 63 #[.pointer (some ⟨w.heap.size, 0, none⟩), .slice A n c] (w.alloc (.cells #[.int .u8 0, .int .u8 0, .slice none 0 0] 105)) (Fails (w.alloc (.cells #[.int .u8 0, .int .u8 0, .slice none 0 0] 105)) w.heap.size) := by
    obtain ⟨⟨u, x, h1⟩, ⟨v, y, h2⟩⟩ := He.out.alloc (.cells #[.int .u8 0, .int .u8 0, .slice none 0 0] 105)
    by_cases hk4 : k < 4
    · exact hunmarshal_short _ A n c _ u x _ h1 (Hs.out.alloc _) (by simp [chunk_length]; omega)
    · have e : (chunk typ flags l).take k = UInt8.ofNat typ :: UInt8.ofNat flags :: (be 2 (4 + l.length) ++ l.take (k - 4)) := by
        obtain ⟨j, rfl⟩ : ∃ j, k = j + 4 := ⟨k - 4, by omega⟩
        rw [chunk_eq, be_two, Nat.add_sub_cancel]
        simp
      have hs := Hs.out
      rw [e] at hs
      have hne : ¬ w.heap.size = 4 := by
        obtain ⟨_, ⟨v', y', h3⟩⟩ := He.out
        have := World.block_lt_of_cell? w _ h3
        simp only at this
        omega
      exact hunmarshal_cut w.heap.size _ _ _ _ [] A n c _ _ l.length _ v y _ h2 hne (Row.new w _ _) (hs.alloc _) (hs.far (by simp) (Nat.le_refl _)) hl (by simp; omega)
  refine hcall.mono ?_
  rintro e w2 ⟨u, v, rfl, hg2⟩
  have hb2 : Below w.heap.size w w2 := below_only ((Below.refl _ _).alloc (Nat.le_refl _) _) (by simp) hg2 (Nat.le_refl _)
  have Hb2 := Lib.hid hb2
  clear hg2 hb2 hcall
  go_wp2
  refine bodyPost_ret (results_tmp4 rfl _ _ _) rfl ?_
  exact ⟨u, v, rfl, Hb2.out⟩

theorem chunkRead_no (A : Option Addr) (n c : Nat) (typ flags : Nat) (l : List UInt8) (k : Nat) (w : World) (he : Errs w) (hs : Sl w (.slice A n c) ((chunk typ flags l).take k)) (hl : l.length ≤ 65531) (hk : k < 4 + l.length) :
    Calls Tryd.prog 15 #[.slice A n c] w fun e w' => (∃ v, e = .returned (.tuple #[.int .i64 0, .int .i64 0, v, .bool false])) ∧ Below w.heap.size w w' := by
  have Hs := Lib.hid hs
  have He := Lib.hid he
  clear hs he
  go_enter Tryd.func15, Tryd.ntmps15
  go_wp2_with fail
  refine (copied_any _ _ _ Hs.out (by simp [chunk_length]; omega)).mono ?_
  rintro e w1 ⟨A1, n1, c1, rfl, hs1, hb1⟩
  have Hs1 := Lib.hid hs1
  have Hb1 := Lib.hid hb1
  clear hs1 hb1
  go_wp2_with fail
  refine (zzchunk_no A1 n1 c1 typ flags l k _ (He.out.below Hb1.out) Hs1.out hl hk).mono ?_
  rintro e w2 ⟨u, x, rfl, hb2⟩
  have Hb2 := Lib.hid hb2
  clear hb2
  go_wp2_with fail
  go_region_with ((go_at_call 40; refine (copied_any _ [] _ (Sl.nil _) (by simp)).mono ?_; rintro e w3 ⟨A3, n3, c3, rfl, hs3, hb3⟩))
  have Hb3 := Lib.hid hb3
  clear hs3 hb3
  go_wp2
  refine bodyPost_ret (results_tmp4 rfl _ _ _) rfl ?_
  have hb := Hb1.out.trans (Hb2.out.mono Hb1.out.size)
  exact ⟨⟨_, rfl⟩, hb.drew.trans (Hb3.out.mono hb.size)⟩

theorem zzchunktext_any (typ flags : Int) (A : Option Addr) (n c : Nat) (l : List UInt8) (w : World) (ht0 : 0 ≤ typ) (ht : typ ≤ 255) (hf0 : 0 ≤ flags) (hf : flags ≤ 255) (hs : Sl w (.slice A n c) l) (hl : l.length ≤ 65531) :
    Calls Tryd.prog 45 #[.int .i64 typ, .int .i64 flags, .slice A n c] w (RetSlE w (chunk typ.toNat flags.toNat l)) := by
  have Hs := Lib.hid hs
  clear hs
  go_enter Tryd.func45, Tryd.ntmps45
  go_wp2_with fail
  have hr : Row (w.alloc (.cells #[.int .u8 typ, .int .u8 flags, .slice A n c] 105)) w.heap.size 105 [bv (UInt8.ofNat typ.toNat), bv (UInt8.ofNat flags.toNat), .slice A n c] := by
    have := Row.new w 105 #[.int .u8 typ, .int .u8 flags, .slice A n c]
    rw [← bv_of typ ht0 ht, ← bv_of flags hf0 hf]
    exact this
  refine (hmarshal_any _ _ _ _ _ [] l _ hr (Hs.out.alloc _) hl).mono ?_
  rintro e w2 ⟨A2, n2, c2, rfl, hs2, hb2⟩
  have Hs2 := Lib.hid hs2
  have Hb2 := Lib.hid hb2
  clear hs2 hb2 hr
  go_wp2
  go_ret2
  refine ⟨A2, n2, c2, rfl, ?_, ((Below.refl _ _).alloc (Nat.le_refl _) _).trans (Hb2.out.mono (by simp))⟩
  have e : chunk typ.toNat flags.toNat l = UInt8.ofNat typ.toNat :: UInt8.ofNat flags.toNat :: (be 2 (l.length + 4) ++ l) := by simp [chunk, Nat.add_comm]
  rw [e]
  exact Hs2.out

theorem chunktext_any (typ flags : Int) (v : Value) (l : List UInt8) (w : World) (ht0 : 0 ≤ typ) (ht : typ ≤ 255) (hf0 : 0 ≤ flags) (hf : flags ≤ 255) (hs : Sl w v l) (hl : l.length ≤ 65531) :
    Calls Tryd.prog 17 #[.int .i64 typ, .int .i64 flags, v] w (RetSl w (chunk typ.toNat flags.toNat l)) := by
  have Hs := Lib.hid hs
  obtain ⟨A, c, rfl, hnc, hcm, hl0, h0, hc⟩ := hs
  clear hc h0 hl0 hcm hnc
  go_enter Tryd.func17, Tryd.ntmps17
  go_wp2_with fail
  refine (copied_any _ _ _ Hs.out (by omega)).mono ?_
  rintro e w1 ⟨A1, n1, c1, rfl, hs1, hb1⟩
  have Hs1 := Lib.hid hs1
  have Hb1 := Lib.hid hb1
  clear hs1 hb1
  go_wp2_with fail
  refine (zzchunktext_any typ flags A1 n1 c1 l _ ht0 ht hf0 hf Hs1.out hl).mono ?_
  rintro e w2 ⟨A2, n2, c2, rfl, hs2, hb2⟩
  have Hs2 := Lib.hid hs2
  have Hb2 := Lib.hid hb2
  clear hs2 hb2
  go_wp2_with fail
  refine (copied_any _ _ _ Hs2.out (by simp [chunk_length]; omega)).mono ?_
  rintro e w3 ⟨A3, n3, c3, rfl, hs3, hb3⟩
  have Hs3 := Lib.hid hs3
  have Hb3 := Lib.hid hb3
  clear hs3 hb3
  go_wp2
  go_ret
  have hb := Hb1.out.trans (Hb2.out.mono Hb1.out.size)
  exact ⟨A3, n3, c3, rfl, Hs3.out, hb.trans (Hb3.out.mono hb.size)⟩
end Go.Proofs.YtnaihmmfnffejaaDoor
