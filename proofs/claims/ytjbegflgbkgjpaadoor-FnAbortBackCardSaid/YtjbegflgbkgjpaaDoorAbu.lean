/- The contract of chunkAbort.unmarshal. Conditions: types 12 or 13, bounds on lengths. -/
import Derived.Test.YtjbegflgbkgjpaaDoorAbt
namespace Go.Proofs.YtjbegflgbkgjpaaDoor
open Go.RowKit Go.Lib

theorem pflat_take {ds : List (Int × List UInt8)} {k : Nat} {d : Int × List UInt8} (h : ds[k]? = some d) : (pflat (ds.take (k + 1))).length = (pflat (ds.take k)).length + (4 + d.2.length) := by
  unfold pflat
  rw [List.take_add_one, h]
  simp [tlv_length]
theorem pflat_split {ds : List (Int × List UInt8)} {k : Nat} {d : Int × List UInt8} (h : ds[k]? = some d) : pflat ds = pflat (ds.take k) ++ (tlv d.1.toNat d.2 ++ pflat (ds.drop (k + 1))) := by
  have hk : k < ds.length := (List.getElem?_eq_some_iff.1 h).1
  have hd : ds.drop k = d :: ds.drop (k + 1) := by
    rw [List.drop_eq_getElem_cons hk]
    congr 1
    exact (List.getElem?_eq_some_iff.1 h).2
  have e : pflat ds = pflat (ds.take k) ++ pflat (ds.drop k) := by
    unfold pflat
    rw [← List.flatten_append, ← List.map_append, List.take_append_drop]
  rw [e, hd]
  congr 1
theorem pflat_drop {ds : List (Int × List UInt8)} {k : Nat} {d : Int × List UInt8} (h : ds[k]? = some d) : (chunk 6 0 (pflat ds)).drop (4 + (pflat (ds.take k)).length) = tlv d.1.toNat d.2 ++ pflat (ds.drop (k + 1)) := by
  rw [← List.drop_drop, chunk_drop, pflat_split h, List.drop_left]

/-- What unmarshal leaves. -/
def ReadsAb (w : World) (gc : Nat) (t : TypeId) (ds : List (Int × List UInt8)) (e : Ending) (w' : World) : Prop :=
  ∃ U hd cs va, e = .returned .nilIface ∧ hd.length = 3 ∧ (∀ x ∈ hd, ∀ T v, x ≠ .iface T v) ∧ w.heap.size ≤ U ∧ cs.map Cz.c = ds ∧ BInv U gc t hd cs w w' va

set_option maxRecDepth 20000 in
set_option maxHeartbeats 1600000 in
theorem abunmarshal (gc : Nat) (t : TypeId) (A : Option Addr) (n c : Nat) (ds : List (Int × List UInt8)) (w : World) (hr : Row w gc t [.int .u8 0, .int .u8 0, .slice none 0 0, .slice none 0 0])
    (hs : Sl w (.slice A n c) (chunk 6 0 (pflat ds))) (hf : Far (.slice A n c) gc) (hl : ds.length ≤ 1000) (hlen : (pflat ds).length ≤ 65531) (hp : ∀ d ∈ ds, (d.1 = 12 ∨ d.1 = 13) ∧ d.2.length ≤ 65531) :
    Calls Tryd.prog 17 #[.pointer (some ⟨gc, 0, none⟩), .slice A n c] w (ReadsAb w gc t ds) := by
  have hn := hs.len
  rw [chunk_length] at hn
  have Hs := Lib.hid hs
  have hs1 := hs
  rw [chunk_hd0] at hs1
  have Hs1 := Lib.hid hs1
  have hs2 := hs
  obtain ⟨A', c', hv, hnc, hcm, hl0, h0, hc⟩ := hs2
  injection hv with e1 e2 e3
  subst e1 e3
  obtain ⟨g, o, rfl, _⟩ := hc (by rw [chunk_length]; omega)
  have hne : ¬ g = gc := fun e => hf _ _ _ rfl e
  have hgl : g < w.heap.size := by
    rcases Nat.lt_or_ge g w.heap.size with h | h
    · exact h
    · exact absurd rfl (hs.far (by rw [chunk_length]; omega) h _ _ _ rfl)
  have hnc' : n ≤ c := by rw [chunk_length] at hnc; omega
  have Hn := Lib.hid hn
  have Hr := Lib.hid hr
  have Hf := Lib.hid hf
  have Hl := Lib.hid hl
  have Hlen := Lib.hid hlen
  have HP := Lib.hid hp
  have n4 : 4 ≤ n := by omega
  have n5 : n ≤ 65535 := by omega
  have hcm' : c ≤ 9223372036854775807 := by unfold maxLen at hcm; omega
  have hgcw := hr.lt
  clear hr hs hs1 hf hl hlen hp hn hnc hcm hl0 h0 hc e2
  go_enter Tryd.func17, Tryd.ntmps17
  go_wp2_with fail
  refine (hunmarshal_ok gc t _ _ _ [_] _ n c _ _ (pflat ds) 0 _ Hr.out Hs1.out Hf.out Hlen.out (by omega)).mono ?_
  rintro e w2 ⟨Ar, nr, cr, rfl, hr2, hs2, hf2, hg2⟩
  have k0 : w2.cell? ⟨gc, 0, none⟩ = some (.int .u8 6) := by rw [hr2.cell]; rfl
  have HI2 : Hid (BInv w2.heap.size gc t [bv 6, bv 0, .slice Ar nr cr] [] w w2 (.slice none 0 0)) := Lib.hid ⟨hr2, World.ownsRow_nil _ _ _ _, fun _ h => by simp at h, fun _ h => by simp at h, hg2, Nat.le_refl _, hr2.lt⟩
  have hz2 := hg2.size
  clear hr2 hs2 hf2 hg2
  go_wp2_with fail
  go_loopw [6] (fun a wr => ∃ (k m : Nat) (cs : List Cz) (va : Value), k ≤ ds.length ∧ m ≤ n ∧ a = .int .i64 m ∧ Hid (m = 4 + (pflat (ds.take k)).length) ∧ Hid (cs.map Cz.c = ds.take k) ∧ Hid (cs.length = k) ∧ Hid (BInv w2.heap.size gc t [bv 6, bv 0, .slice Ar nr cr] cs w wr va)) (fun a _ => n - (intOf a).toNat)
  case atStart => exact ⟨0, 4, [], _, Nat.zero_le _, n4, rfl, Lib.hid rfl, Lib.hid rfl, Lib.hid rfl, HI2⟩
  case round =>
    obtain ⟨k, m, cs, va, hk, hm, rfl, Hm, Hcs, Hle, HI⟩ := hrel
    by_cases hlt : k < ds.length
    · have hx : ds[k]? = some ds[k] := List.getElem?_eq_getElem hlt
      obtain ⟨hty, hlx⟩ := HP.out _ (List.getElem_mem hlt)
      generalize ds[k] = d at hx hty hlx
      have Hx := Lib.hid hx
      have e1 := congrArg List.length (pflat_split hx)
      rw [List.length_append, List.length_append, tlv_length] at e1
      have hmn : m + (4 + d.2.length) ≤ n := by have := Hm.out; have := Hn.out; omega
      have hS : Sl wr (.slice (some ⟨g, o, none⟩) n c) (chunk 6 0 (pflat ds)) := Hs.out.only HI.out.bel Hf.out
      have hmc : ¬ c = m := by omega
      have hS2 := hS.rest m hm hmc
      rw [Hm.out, pflat_drop hx, ← Hm.out] at hS2
      obtain ⟨tx, lx⟩ := d
      simp only at hty hlx hS2 hmn
      obtain ⟨ty, rfl⟩ : ∃ ty : Nat, tx = (ty : Int) := ⟨tx.toNat, by rcases hty with e | e <;> rw [e] <;> rfl⟩
      rw [Int.toNat_natCast] at hS2
      have hty' : ty = 12 ∨ ty = 13 := by omega
      have HS2 := Lib.hid hS2
      have i4 : (n : Int) - (m : Int) ≥ 4 := by omega
      have i5 : (m : Int) ≤ (n : Int) := by omega
      have hzr := HI.out.size
      clear hx hS hS2 hty e1 k0
      go_wp2_with fail
      refine (build_any ty _ _ _ lx _ wr hty' HS2.out hlx).mono ?_
      rintro e w3 ⟨g3, A3, n3, c3, rfl, hR3, hS3, hF3, hg3, hB3⟩
      have hF3' : ∀ j, g ≠ j → Far (.slice A3 n3 c3) j := fun j hj => hF3 j (fun A n c e => by cases e; exact hj)
      have hr3 := HI.out.row.below hB3 (by have := HI.out.gU; omega)
      have y3 : w3.cell? ⟨gc, 3, none⟩ = some va := by rw [hr3.cell]; rfl
      have y3' : (w3.alloc (.cells #[.iface (eT ty) (.pointer (some ⟨g3, 0, none⟩))] 59)).cell? ⟨gc, 3, none⟩ = some va := by rw [(hr3.alloc _).cell]; rfl
      have hO3 := own_below HI.out.own hB3
      rw [Hle.out] at hO3
      have hk3 : w3.cell? ⟨g3, 1, none⟩ = some (.int .u16 ((4 + lx.length : Nat) : Int)) := by rw [hR3.cell]; rfl
      have hmeth : ∀ (a : Addr) (w : World), (method 204 (eT ty) (.pointer (some a)) "loop.example/pub-g03037/pub/sctp.length").run Tryd.prog w = .ok (40, .pointer (some a)) w := by
        rcases hty' with e | e <;> rw [e] <;> intro a w
        · exact (show (method 204 (eT 12) (.pointer (some a)) "loop.example/pub-g03037/pub/sctp.length").run Tryd.prog w = .ok (40, .pointer (some a)) w by kernel_rfl)
        · exact (show (method 204 (eT 13) (.pointer (some a)) "loop.example/pub-g03037/pub/sctp.length").run Tryd.prog w = .ok (40, .pointer (some a)) w by kernel_rfl)
      have HR3 := Lib.hid hR3
      have HS3 := Lib.hid hS3
      have HF3 := Lib.hid hF3'
      have HB3 := Lib.hid hB3
      have HO3 := Lib.hid hO3
      have Hr3 := Lib.hid hr3
      have hU3 : w2.heap.size ≤ w3.heap.size := Nat.le_trans hzr hB3.size
      obtain ⟨q, hq⟩ : ∃ q, q = 4 + lx.length := ⟨_, rfl⟩
      rw [← hq] at hk3
      have Hq := Lib.hid hq
      have hq1 : q ≤ 65535 := by omega
      have hqm : m + q ≤ n := by omega
      clear hR3 hS3 hF3 hF3' hB3 hr3 hO3 hq
      generalize hT : eT ty = T at y3' hmeth ⊢
      have HT := Lib.hid hT
      clear hT
      go_wp2_with fail
      refine (echlength g3 (q : Int) w3 hk3).mono ?_
      rintro e w' ⟨rfl, rfl⟩
      go_wp2_with (at_builtin; refine wpList_append_rd _ rfl _ _ rfl ecT w2.heap.size va k _ rfl (HO3.out.alloc _) _ 1 [_] rfl (Rd.lit _ 59 [.iface T (.pointer (some ⟨g3, 0, none⟩))] 1 rfl (by omega)) ?c1 ?c2 ?c3 ?c4 ?_)
      case c1 => simp [Value.oneCell']
      case c2 => have := Hl.out; unfold maxLen; omega
      case c3 => have := Hl.out; omega
      case c4 => simp; omega
      intro v5 w5 hown5 hg5 hat5
      obtain ⟨A5, c5, e5⟩ := own_slice hown5
      subst e5
      have hr5 := (Hr3.out.alloc (.cells #[.iface T (.pointer (some ⟨g3, 0, none⟩))] 59)).grown hg5 (fun e => by have := (HI.out.own.lt _ e.symm).1; have := HI.out.gU; omega)
      have y5 : w5.cell? ⟨gc, 3, none⟩ = some va := by rw [hr5.cell]; rfl
      have f5 := hr5.frozen 3
      have hI5 := HI.out.step (c := ⟨g3, ty, .slice A3 n3 c3, lx⟩) (i := 3) (v5 := .slice A5 (k + 1) c5) (o := .cells #[.iface T (.pointer (some ⟨g3, 0, none⟩))] 59) rfl HB3.out ⟨_, _, _, _, HR3.out, HS3.out⟩ hg3 hty' hlx (fun hp => ⟨HF3.out _ hne, fun j hj => HF3.out _ (by have := (HI.out.own.lt j hj).1; omega)⟩) hz2 (by rw [Hle.out]; unfold Cz.v; rw [HT.out]; exact hown5) hg5 (by simpa using hat5)
      have HI5 := Lib.hid hI5
      have Hcs5 : Hid ((cs ++ [(⟨g3, ty, .slice A3 n3 c3, lx⟩ : Cz)]).map Cz.c = ds.take (k + 1)) := Lib.hid (by rw [List.map_append, Hcs.out, List.take_add_one, Hx.out]; rfl)
      have Hlen5 : Hid ((cs ++ [(⟨g3, ty, .slice A3 n3 c3, lx⟩ : Cz)]).length = k + 1) := Lib.hid (by simp [Hle.out])
      have Hm5 : Hid (m + q = 4 + (pflat (ds.take (k + 1))).length) := Lib.hid (by rw [pflat_take Hx.out]; have := Hm.out; have := Hq.out; simp only; omega)
      clear hI5 hown5 hg5 hat5 hr5 y3 y3'
      have hq4 : 4 ≤ q := by have := Hq.out; omega
      go_wp2
      go_roundw
      case rel => exact ⟨k + 1, m + q, _, _, by omega, hqm, by go_num, Hm5, Hcs5, Hlen5, HI5⟩
      case measure => simp [intOf]; omega
    · obtain rfl : k = ds.length := by omega
      have hm' := Hm.out
      have hcs := Hcs.out
      rw [List.take_length] at hm' hcs
      obtain rfl : m = n := by have := Hn.out; omega
      have Hcs' := Lib.hid hcs
      clear hm' hcs k0
      go_wp2
      go_ret
      refine ⟨w2.heap.size, [bv 6, bv 0, .slice Ar nr cr], cs, va, rfl, rfl, ?_, hz2, Hcs'.out, HI.out⟩
      intro x hx T v e
      subst e
      simp [bv] at hx
end Go.Proofs.YtjbegflgbkgjpaaDoor
