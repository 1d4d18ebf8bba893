/- Contracts of ZZChunk, Chunk, ZZChunkText, ChunkText, and the walks of FnChunkIs and FnChunkCut. Conditions: those that the laws themselves name. -/
import Derived.Test.YtnaihmmfnffejaaDoorZer
import Derived.Test.YtnaihmmfnffejaaDoorEmp
namespace Go.Proofs.YtnaihmmfnffejaaDoor
open Go.RowKit Go.Lib

theorem results_tmp4 {fn : Func} {t u v x : Tmp} (h : fn.results = #[.tmp t, .tmp u, .tmp v, .tmp x]) (tmps : Array Value) (P : Program) (w : World) :
    (results fn tmps).run P w = .ok (.tuple #[tmps.getD t undef, tmps.getD u undef, tmps.getD v undef, tmps.getD x undef]) w := by simp [results, h]

/-- The header's bytes, the value's, and zeros behind. -/
def hd (tb fb : UInt8) (l : List UInt8) (k : Nat) : List UInt8 := tb :: fb :: (be 2 (4 + l.length) ++ (l ++ List.replicate k 0))
theorem hd_length (tb fb : UInt8) (l : List UInt8) (k : Nat) : (hd tb fb l k).length = 4 + l.length + k := by simp [hd, be_length]; omega

def ChunkRet (w : World) (tb fb : UInt8) (l : List UInt8) (last : Value) (e : Ending) (w' : World) : Prop :=
  ∃ A n c, e = .returned (.tuple #[.int .i64 (tb.toNat : Int), .int .i64 (fb.toNat : Int), .slice A n c, last]) ∧ Sl w' (.slice A n c) l ∧ Below w.heap.size w w'

theorem zzchunk_ok (A : Option Addr) (n c : Nat) (tb fb : UInt8) (l : List UInt8) (k : Nat) (w : World) (hs : Sl w (.slice A n c) (hd tb fb l k)) (hl : l.length ≤ 65531) (hk : k ≤ 3) :
    Calls Tryd.prog 43 #[.slice A n c] w (ChunkRet w tb fb l .nilIface) := by
  have hf : Far (.slice A n c) w.heap.size := hs.far (by rw [hd_length]; omega) (Nat.le_refl _)
  have Hs := Lib.hid hs
  have Hf := Lib.hid hf
  clear hs hf
  have htb := tb.toNat_lt
  have hfb := fb.toNat_lt
  go_enter Tryd.func43, Tryd.ntmps43
  go_wp2_with fail
  refine (hunmarshal_ok w.heap.size _ _ _ _ [] A n c tb fb l k _ (Row.new w _ _) (Hs.out.alloc _) Hf.out hl hk).mono ?_
  rintro e w2 ⟨A2, n2, c2, rfl, hr2, hs2, hf2, hg2⟩
  have hb2 : Below w.heap.size w w2 := below_only ((Below.refl _ _).alloc (Nat.le_refl _) _) (by simp) hg2 (Nat.le_refl _)
  have x0 : w2.cell? ⟨w.heap.size, 0, none⟩ = some (.int .u8 (tb.toNat : Int)) := by rw [hr2.cell]; rfl
  have x1 : w2.cell? ⟨w.heap.size, 1, none⟩ = some (.int .u8 (fb.toNat : Int)) := by rw [hr2.cell]; rfl
  have x2 : w2.cell? ⟨w.heap.size, 2, none⟩ = some (.slice A2 n2 c2) := by rw [hr2.cell]; rfl
  have Hs2 := Lib.hid hs2
  have Hb2 := Lib.hid hb2
  clear hr2 hs2 hf2 hg2 hb2
  go_wp2_with fail
  go_quiet (fail)
  go_wp2
  refine bodyPost_ret (results_tmp4 rfl _ _ _) rfl ?_
  exact ⟨A2, n2, c2, rfl, Hs2.out.drewN _, below_drewN Hb2.out _⟩

def ChunkNo (w : World) (e : Ending) (w' : World) : Prop := ∃ u v, e = .returned (.tuple #[.int .i64 0, .int .i64 0, .slice none 0 0, .iface u v]) ∧ Below w.heap.size w w'

theorem chunkRead_ok (A : Option Addr) (n c : Nat) (tb fb : UInt8) (l : List UInt8) (k : Nat) (w : World) (hs : Sl w (.slice A n c) (hd tb fb l k)) (hl : l.length ≤ 65531) (hk : k ≤ 3) :
    Calls Tryd.prog 15 #[.slice A n c] w (ChunkRet w tb fb l (.bool true)) := by
  have Hs := Lib.hid hs
  clear hs
  go_enter Tryd.func15, Tryd.ntmps15
  go_wp2_with fail
  refine (copied_any _ _ _ Hs.out (by rw [hd_length]; omega)).mono ?_
  rintro e w1 ⟨A1, n1, c1, rfl, hs1, hb1⟩
  have Hs1 := Lib.hid hs1
  have Hb1 := Lib.hid hb1
  clear hs1 hb1
  go_wp2_with fail
  refine (zzchunk_ok A1 n1 c1 tb fb l k _ Hs1.out hl hk).mono ?_
  rintro e w2 ⟨A2, n2, c2, rfl, hs2, hb2⟩
  have Hs2 := Lib.hid hs2
  have Hb2 := Lib.hid hb2
  clear hs2 hb2
  go_wp2_with fail
  go_region_with ((go_at_call 40; refine (copied_any _ _ _ Hs2.out.drew (by omega)).mono ?_; rintro e w3 ⟨A3, n3, c3, rfl, hs3, hb3⟩))
  have Hs3 := Lib.hid hs3
  have Hb3 := Lib.hid hb3
  clear hs3 hb3
  go_wp2
  refine bodyPost_ret (results_tmp4 rfl _ _ _) rfl ?_
  have hb := Hb1.out.trans (Hb2.out.mono Hb1.out.size)
  exact ⟨A3, n3, c3, rfl, Hs3.out, hb.drew.trans (Hb3.out.mono hb.size)⟩
end Go.Proofs.YtnaihmmfnffejaaDoor
