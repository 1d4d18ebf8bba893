/- The law FnChecksumIs returns true for every input and changes nothing that was there: its row. No condition. -/
import Derived.Test.YthgpmocbpofnhaaCrcX
import Derived.Test.YthgpmocbpofnhaaRows
import Derived.WalkKit
import Derived.ProofKit
import Derived.OpenShut
import Derived.ChangeOld
import Derived.LaidLaws
namespace Go.Proofs.Ythgpmocbpofnhaa
open Go.ChangeShapes Go.WideShapes Go.ChangeAt Go.RowKit

theorem own : ownKnob Try.prog.godebug = none := by kernel_rfl
theorem laidOut : laidOutB Try.prog = true := by kernel_rfl

/-- Bytes that were read as data are a list of bytes. -/
theorem open_bytes {H : Type} {enc : TypeId × Value → H} {W : World} {base : Nat} {sp : Nat → Bool} {A : Option Addr} {n c : Nat} {d : DataW H} {ps : List MemPlace}
    (h : DataW.Trod enc Try.prog W base sp true 22 (.slice A n c) d ps) : ∃ l, Sl W (.slice A n c) l := by
  obtain ⟨fuel, hf⟩ := h
  rcases open_ints Try.underlying22 Try.underlying5 (by kernel_rfl) hf with ⟨hcs, _⟩ | ⟨x, m, k, zs, hcs, _, hl, hm, hz, _, hcell, hwz⟩
  · simp [Value.cells] at hcs
    obtain ⟨rfl, rfl, rfl⟩ := hcs
    exact ⟨[], Sl.nil _⟩
  · simp [Value.cells] at hcs
    obtain ⟨rfl, rfl, rfl⟩ := hcs
    have hzn : n ≤ zs.length := by split at hz <;> omega
    have hlen : ((zs.take n).map fun z => UInt8.ofNat z.toNat).length = n := by simp; omega
    refine ⟨(zs.take n).map fun z => UInt8.ofNat z.toNat, some x, c, by rw [hlen], by rw [hlen]; omega, hm, by simp [bvs], (fun h => by cases h), fun hp => ?_⟩
    rw [hlen] at hp
    obtain ⟨g, o, spot⟩ := x
    have hc0 := hcell 0 (by omega)
    have hspot : spot = none := by simpa [Addr.add] using World.cell?_spot hc0
    subst hspot
    refine ⟨g, o, rfl, fun j u hu => ?_⟩
    have hj := (List.getElem?_eq_some_iff.1 hu).1
    rw [bvs_length, hlen] at hj
    have hcj := hcell j (by omega)
    have hget : zs[j]? = some (zs.getD j 0) := by rw [List.getD_eq_getElem?_getD, List.getElem?_eq_getElem (by omega)]; rfl
    have hwf := hwz (zs.getD j 0) (List.mem_of_getElem? hget)
    generalize zs.getD j 0 = z at hwf hget hcj
    have e : u = .int .u8 z := by
      simp only [bvs, List.getElem?_map, List.getElem?_take, if_pos hj, hget, Option.map_some] at hu
      injection hu with hu
      rw [← hu]
      unfold bv
      simp [Lit.wf, IntKind.min, IntKind.max, IntKind.signed, IntKind.bits] at hwf
      congr 1
      rw [UInt8.toNat_ofNat']
      omega
    rw [e]
    rw [Addr.add_lit] at hcj
    exact hcj
end Go.Proofs.Ythgpmocbpofnhaa
namespace Go.Proofs.Ythgpmocbpofnhaa.fnChecksumIs
open Go.ChangeShapes Go.WideShapes Go.ChangeAt Go.RowKit

set_option maxRecDepth 100000 in
theorem lifted (os : Os) (started : os.Started) (H : Type) (enc : TypeId × Value → H) :
    ReturnsInHanded {} Try.checked os 3 .any (Rows.fnChecksumIsSpec.pre6 enc Try.prog Try.f3 Rows.fnChecksumIsRow.domain false) (Rows.fnChecksumIsSpec.post enc Try.prog Try.f3 false true false false) := by
  refine returnsInHanded_of_change (C := Try.checked) own started (by kernel_rfl) Try.func3
    (ChangeSpec.witness6 (enc := enc) (C := Try.checked) false ⟨#[], #[.slice none 0 0], []⟩ 8 (by kernel_rfl) (by kernel_rfl) (by kernel_rfl) (by kernel_rfl)) ?_
  intro W base args ds gs before hval0 hW hcnd _
  have hval : ∀ (j : Nat) t v, Try.f3.params[j]? = some t → args[j]? = some v → Value.okWide Try.prog W .any base t v := hval0
  have hW' := hW
  obtain ⟨p, q, hA0, hV, rfl, hfz, hnd⟩ := hW
  have hA : DataW.TrodAll enc Try.prog W 0 (fun _ => true) true Try.f3.params.toList args.toList ds p := hA0
  rw [Try.params3] at hA hval
  obtain ⟨v0, vs0, d0, ds0, p0, q0, hargs, rfl, rfl, h0, r0⟩ := trodAll_cons hA
  obtain ⟨rfl, rfl, rfl⟩ := trodAll_nil r0
  obtain rfl : args = #[v0] := by cases args; simp_all
  obtain ⟨rfl, rfl⟩ := trodVars_none hV
  obtain ⟨A0, n0, c0, rfl⟩ := okWide_slice Try.underlying22 (hval 0 22 v0 rfl rfl)
  have k0 := h0
  have lt0 : ∀ x ∈ p0, x.block < W.heap.size := by obtain ⟨m, hm⟩ := k0; exact DataW.trod_lt m _ _ _ hm
  obtain ⟨l0, w0⟩ := open_bytes h0
  clear hA0 hval0
  refine (fnChecksumIs_walk A0 n0 c0 l0 W w0).mono fun e W' ⟨he, bel⟩ => ?_
  subst he
  exact ⟨_, rfl, _, _, _, [], _, _, hW', trodAll_mk1 (shut_bool Try.underlying4 _), (trodAll_cons_mk (Below.trod laidOut (by kernel_rfl) (of_decide_eq_true (by kernel_rfl)) k0 bel lt0) trodAll_mk0), rfl, bel.frame _, fun h => by cases h⟩

theorem over : Rows.fnChecksumIsRow.holds Try.pinned (OpenSpec.ofChange Rows.fnChecksumIsSpec) :=
  OpenClaim.holds_of_wide 3 Try.f3 rfl rfl rfl rfl rfl rfl rfl ⟨rfl, rfl, rfl, rfl, rfl⟩ rfl rfl rfl rfl rfl (by kernel_rfl) Try.func3 (by kernel_rfl)
    (of_decide_eq_true (by kernel_rfl)) (by unfold Func.isWrapper; first | (rw [if_pos (by decide +kernel)]; kernel_rfl) | (rw [if_neg (by decide +kernel)]; exact ⟨rfl, rfl⟩))
    (fun os started H enc _ => lifted os started H enc)

theorem proved : Rows.FnChecksumIsSaid :=
  over
#print axioms proved
end Go.Proofs.Ythgpmocbpofnhaa.fnChecksumIs
