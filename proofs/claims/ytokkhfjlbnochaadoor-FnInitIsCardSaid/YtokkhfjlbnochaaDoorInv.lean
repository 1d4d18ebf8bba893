/- The contracts of the unmarshals of INIT and INIT ACK. Conditions: kinds of parameters, the last has a value, bounds on numbers and lengths. -/
import Derived.Test.YtokkhfjlbnochaaDoorInu
namespace Go.Proofs.YtokkhfjlbnochaaDoor
open Go.RowKit Go.Lib

/-- What unmarshal leaves. -/
def ReadsIn (w : World) (gc : Nat) (t : TypeId) (k : Nat) (tag win out inn tsn : Nat) (ds : List (Int × List UInt8)) (e : Ending) (w' : World) : Prop :=
  ∃ U r cs va, e = .returned .nilIface ∧ w.heap.size ≤ U ∧ cs.map Kp.d = ds ∧ KB U gc t [.int .u8 (k : Int), .int .u8 0, r, .int .u32 (tag : Int), .int .u32 (win : Int), .int .u16 (out : Int), .int .u16 (inn : Int), .int .u32 (tsn : Int)] [.slice none 0 0] cs w w' va

set_option maxRecDepth 20000 in
set_option maxHeartbeats 1600000 in
theorem inunmarshal (gc : Nat) (t : TypeId) (A : Option Addr) (n c : Nat) (tag win out inn tsn : Nat) (ds : List (Int × List UInt8)) (w : World) (hr : Row w gc t [.int .u8 0, .int .u8 0, .slice none 0 0, .int .u32 0, .int .u32 0, .int .u16 0, .int .u16 0, .int .u32 0, .slice none 0 0, .slice none 0 0])
    (hs : Sl w (.slice A n c) (chunk 1 0 (ihead tag win out inn tsn ++ kflat ds))) (hf : Far (.slice A n c) gc) (hok : IOk tag win out inn tsn) (hl : ds.length ≤ 1000) (hlen : (kflat ds).length ≤ 60000) (hp : ∀ d ∈ ds, ∃ ty : Nat, d.1 = (ty : Int) ∧ OkK ty d.2) (hlast : ∀ d, ds[ds.length - 1]? = some d → 0 < d.2.length) :
    Calls Tryd.prog 26 #[.pointer (some ⟨gc, 0, none⟩), .slice A n c] w (ReadsIn w gc t 1 tag win out inn tsn ds) := by
  rw [chunk_hd0] at hs
  have Hr := Lib.hid hr
  have Hs := Lib.hid hs
  have Hf := Lib.hid hf
  have Hok := Lib.hid hok
  have Hl := Lib.hid hl
  have Hlen := Lib.hid hlen
  have HP := Lib.hid hp
  have Hlast := Lib.hid hlast
  clear hr hs hf hok hl hlen hp hlast
  go_enter Tryd.func26, Tryd.ntmps26
  go_wp2_with fail
  refine (hunmarshal_ok gc t _ _ _ _ A n c _ _ (ihead tag win out inn tsn ++ kflat ds) 0 _ Hr.out Hs.out Hf.out (by rw [List.length_append, ihead_length]; have := Hlen.out; omega) (by omega)).mono ?_
  rintro e w2 ⟨Ar, nr, cr, rfl, hr2, hs2, hf2, hg2⟩
  have hnr := hs2.len
  rw [List.length_append, ihead_length] at hnr
  have k0 : w2.cell? ⟨gc, 0, none⟩ = some (.int .u8 1) := by rw [hr2.cell]; rfl
  have k1 : w2.cell? ⟨gc, 1, none⟩ = some (.int .u8 0) := by rw [hr2.cell]; rfl
  have k2 : w2.cell? ⟨gc, 2, none⟩ = some (.slice Ar nr cr) := by rw [hr2.cell]; rfl
  have i1 : ¬ (nr : Int) < 16 := by omega
  have Hr2 := Lib.hid hr2
  have Hs2 := Lib.hid hs2
  have Hf2 := Lib.hid hf2
  have Hg2 := Lib.hid hg2
  clear hr2 hs2 hf2 hg2 hnr
  go_wp2_with fail
  refine wp_region_tail 8 (by kernel_rfl) (by kernel_rfl) ?_
  simp only [List.take_succ_cons, List.take_zero, List.drop_succ_cons, List.drop_zero]
  repeat still_step
  refine wpStill_nil ?_
  go_wp2_with fail
  refine (icunmarshal gc t _ _ _ Ar nr cr tag win out inn tsn ds _ Hr2.out.drew Hs2.out.drew Hf2.out Hok.out Hl.out Hlen.out HP.out Hlast.out).mono ?_
  rintro e w3 ⟨cs, va, rfl, hcs, hI⟩
  have HI := Lib.hid hI
  have Hcs := Lib.hid hcs
  clear hI hcs k0 k1 k2
  go_wp2
  go_ret
  exact ⟨_, _, cs, va, rfl, Hg2.out.size, Hcs.out, ⟨HI.out.row, HI.out.own, HI.out.all, HI.out.lies, only_trans (only_drew Hg2.out) HI.out.bel, HI.out.size, HI.out.gU⟩⟩

set_option maxRecDepth 20000 in
set_option maxHeartbeats 1600000 in
theorem iaunmarshal (gc : Nat) (t : TypeId) (A : Option Addr) (n c : Nat) (tag win out inn tsn : Nat) (ds : List (Int × List UInt8)) (w : World) (hr : Row w gc t [.int .u8 0, .int .u8 0, .slice none 0 0, .int .u32 0, .int .u32 0, .int .u16 0, .int .u16 0, .int .u32 0, .slice none 0 0, .slice none 0 0])
    (hs : Sl w (.slice A n c) (chunk 2 0 (ihead tag win out inn tsn ++ kflat ds))) (hf : Far (.slice A n c) gc) (hok : IOk tag win out inn tsn) (hl : ds.length ≤ 1000) (hlen : (kflat ds).length ≤ 60000) (hp : ∀ d ∈ ds, ∃ ty : Nat, d.1 = (ty : Int) ∧ OkK ty d.2) (hlast : ∀ d, ds[ds.length - 1]? = some d → 0 < d.2.length) :
    Calls Tryd.prog 25 #[.pointer (some ⟨gc, 0, none⟩), .slice A n c] w (ReadsIn w gc t 2 tag win out inn tsn ds) := by
  rw [chunk_hd0] at hs
  have Hr := Lib.hid hr
  have Hs := Lib.hid hs
  have Hf := Lib.hid hf
  have Hok := Lib.hid hok
  have Hl := Lib.hid hl
  have Hlen := Lib.hid hlen
  have HP := Lib.hid hp
  have Hlast := Lib.hid hlast
  clear hr hs hf hok hl hlen hp hlast
  go_enter Tryd.func25, Tryd.ntmps25
  go_wp2_with fail
  refine (hunmarshal_ok gc t _ _ _ _ A n c _ _ (ihead tag win out inn tsn ++ kflat ds) 0 _ Hr.out Hs.out Hf.out (by rw [List.length_append, ihead_length]; have := Hlen.out; omega) (by omega)).mono ?_
  rintro e w2 ⟨Ar, nr, cr, rfl, hr2, hs2, hf2, hg2⟩
  have hnr := hs2.len
  rw [List.length_append, ihead_length] at hnr
  have k0 : w2.cell? ⟨gc, 0, none⟩ = some (.int .u8 2) := by rw [hr2.cell]; rfl
  have k1 : w2.cell? ⟨gc, 1, none⟩ = some (.int .u8 0) := by rw [hr2.cell]; rfl
  have k2 : w2.cell? ⟨gc, 2, none⟩ = some (.slice Ar nr cr) := by rw [hr2.cell]; rfl
  have i1 : ¬ (nr : Int) < 16 := by omega
  have Hr2 := Lib.hid hr2
  have Hs2 := Lib.hid hs2
  have Hf2 := Lib.hid hf2
  have Hg2 := Lib.hid hg2
  clear hr2 hs2 hf2 hg2 hnr
  go_wp2_with fail
  refine wp_region_tail 8 (by kernel_rfl) (by kernel_rfl) ?_
  simp only [List.take_succ_cons, List.take_zero, List.drop_succ_cons, List.drop_zero]
  repeat still_step
  refine wpStill_nil ?_
  go_wp2_with fail
  refine (icunmarshal gc t _ _ _ Ar nr cr tag win out inn tsn ds _ Hr2.out.drew Hs2.out.drew Hf2.out Hok.out Hl.out Hlen.out HP.out Hlast.out).mono ?_
  rintro e w3 ⟨cs, va, rfl, hcs, hI⟩
  have HI := Lib.hid hI
  have Hcs := Lib.hid hcs
  clear hI hcs k0 k1 k2
  go_wp2
  go_ret
  exact ⟨_, _, cs, va, rfl, Hg2.out.size, Hcs.out, ⟨HI.out.row, HI.out.own, HI.out.all, HI.out.lies, only_trans (only_drew Hg2.out) HI.out.bel, HI.out.size, HI.out.gU⟩⟩
end Go.Proofs.YtokkhfjlbnochaaDoor
