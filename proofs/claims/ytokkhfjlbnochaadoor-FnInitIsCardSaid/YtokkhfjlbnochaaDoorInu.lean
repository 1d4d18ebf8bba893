/- The contract of chunkInitCommon.unmarshal. Conditions: kinds of parameters, the last has a value, bounds on numbers and lengths. -/
import Derived.Test.YtokkhfjlbnochaaDoorInx
namespace Go.Proofs.YtokkhfjlbnochaaDoor
open Go.RowKit Go.Lib

theorem ihead_drop (tag win out inn tsn : Nat) (r : List UInt8) : (ihead tag win out inn tsn ++ r).drop 4 = be 4 win ++ (be 2 out ++ (be 2 inn ++ (be 4 tsn ++ r))) ∧ (ihead tag win out inn tsn ++ r).drop 8 = be 2 out ++ (be 2 inn ++ (be 4 tsn ++ r)) ∧ (ihead tag win out inn tsn ++ r).drop 10 = be 2 inn ++ (be 4 tsn ++ r) ∧ (ihead tag win out inn tsn ++ r).drop 12 = be 4 tsn ++ r := by
  simp [ihead, be_four, be_two]
theorem ihead_all (tag win out inn tsn : Nat) (r : List UInt8) : ihead tag win out inn tsn ++ r = be 4 tag ++ (be 4 win ++ (be 2 out ++ (be 2 inn ++ (be 4 tsn ++ r)))) := by simp [ihead]
theorem kflat_drop {ds : List (Int × List UInt8)} {k : Nat} {d : Int × List UInt8} (h : ds[k]? = some d) (tag win out inn tsn : Nat) : ∃ r, (ihead tag win out inn tsn ++ kflat ds).drop (16 + klen ds k) = tlv d.1.toNat d.2 ++ r := by
  obtain ⟨r, hr⟩ := kflat_split h
  have hk : k < ds.length := (List.getElem?_eq_some_iff.1 h).1
  refine ⟨r, ?_⟩
  rw [← List.drop_drop, show (ihead tag win out inn tsn ++ kflat ds).drop 16 = kflat ds from List.drop_left' (ihead_length _ _ _ _ _), hr]
  exact List.drop_left' (kpre_length hk)

/-- What the common part's unmarshal leaves. -/
def ReadsIc (w : World) (gc : Nat) (t : TypeId) (hd : List Value) (ds : List (Int × List UInt8)) (e : Ending) (w' : World) : Prop :=
  ∃ cs va, e = .returned .nilIface ∧ cs.map Kp.d = ds ∧ KB w.heap.size gc t hd [.slice none 0 0] cs w w' va

set_option maxRecDepth 20000 in
set_option maxHeartbeats 3200000 in
theorem icunmarshal (gc : Nat) (t : TypeId) (c0 c1 c2 : Value) (A : Option Addr) (n c : Nat) (tag win out inn tsn : Nat) (ds : List (Int × List UInt8)) (w : World) (hr : Row w gc t [c0, c1, c2, .int .u32 0, .int .u32 0, .int .u16 0, .int .u16 0, .int .u32 0, .slice none 0 0, .slice none 0 0])
    (hs : Sl w (.slice A n c) (ihead tag win out inn tsn ++ kflat ds)) (hf : Far (.slice A n c) gc) (hok : IOk tag win out inn tsn) (hl : ds.length ≤ 1000) (hlen : (kflat ds).length ≤ 60000) (hp : ∀ d ∈ ds, ∃ ty : Nat, d.1 = (ty : Int) ∧ OkK ty d.2) (hlast : ∀ d, ds[ds.length - 1]? = some d → 0 < d.2.length) :
    Calls Tryd.prog 34 #[.pointer (some ⟨gc, 3, none⟩), .slice A n c] w (ReadsIc w gc t [c0, c1, c2, .int .u32 (tag : Int), .int .u32 (win : Int), .int .u16 (out : Int), .int .u16 (inn : Int), .int .u32 (tsn : Int)] ds) := by
  have hn := hs.len
  rw [List.length_append, ihead_length] at hn
  have Hs := Lib.hid hs
  have hs2 := hs
  obtain ⟨A', c', hv, hnc, hcm, hl0, h0, hc⟩ := hs2
  injection hv with e1 e2 e3
  subst e1 e3
  obtain ⟨g, o, rfl, _⟩ := hc (by rw [List.length_append, ihead_length]; omega)
  have hne : ¬ g = gc := fun e => hf _ _ _ rfl e
  have hgl : g < w.heap.size := by
    rcases Nat.lt_or_ge g w.heap.size with h | h
    · exact h
    · exact absurd rfl (hs.far (by rw [List.length_append, ihead_length]; omega) h _ _ _ rfl)
  rw [← hs.len] at hnc
  have Hn := Lib.hid hn
  have Hr := Lib.hid hr
  have Hf := Lib.hid hf
  have Hl := Lib.hid hl
  have Hlen := Lib.hid hlen
  have HP := Lib.hid hp
  have Hlast := Lib.hid hlast
  have n16 : 16 ≤ n := by omega
  have n5 : n ≤ 60016 := by omega
  have hcm' : c ≤ 9223372036854775807 := by unfold maxLen at hcm; omega
  have hgcw := hr.lt
  have hc0 : ¬ c = 0 := by omega
  have hc4 : ¬ c = 4 := by omega
  have hc8 : ¬ c = 8 := by omega
  have hc10 : ¬ c = 10 := by omega
  have hc12 : ¬ c = 12 := by omega
  have i4 : (4 : Int) ≤ (n : Int) := by omega
  have i8 : (8 : Int) ≤ (n : Int) := by omega
  have i10 : (10 : Int) ≤ (n : Int) := by omega
  have i12 : (12 : Int) ≤ (n : Int) := by omega
  obtain ⟨b1, b2, b3, b4, b5⟩ := hok
  obtain ⟨d4, d8, d10, d12⟩ := ihead_drop tag win out inn tsn (kflat ds)
  have D0 := Lib.hid (ihead_all tag win out inn tsn (kflat ds))
  have D4 := Lib.hid d4
  have D8 := Lib.hid d8
  have D10 := Lib.hid d10
  have D12 := Lib.hid d12
  clear hr hs hf hl hlen hp hn hcm hl0 h0 hc e2 hlast d4 d8 d10 d12
  go_enter Tryd.func34, Tryd.ntmps34
  have HR := Hr
  have HG : Hid (w.grownBy w (some gc)) := Lib.hid (only_refl w _)
  clear Hr
  go_upto_region 1 with fail
  have hsub : Sl w.drew (.slice (some ⟨g, o, none⟩) n c) _ := (Hs.out.only HG.out (fun A n c e => by cases e; exact hne)).drew
  rw [D0.out] at hsub
  have Hsub := Lib.hid hsub
  clear hsub
  go_cut [] (fun wx => Hid (Row wx gc t [c0, c1, c2, .int .u32 (tag : Int), .int .u32 0, .int .u16 0, .int .u16 0, .int .u32 0, .slice none 0 0, .slice none 0 0]) ∧ Hid (w.grownBy wx (some gc)))
  case first =>
    go_region_with ((go_at_call 51; refine (get32_be _ _ _ tag _ _ Hsub.out (by omega)).mono ?_; rintro z w3 ⟨rfl, hb3⟩; have hr3 := HR.out.drew.below hb3 HR.out.lt; have y3 : w3.cell? ⟨gc, 3, none⟩ = some (.int .u32 0) := (by rw [hr3.cell]; rfl); have f3 := hr3.frozen 3))
    all_goals
      go_wp2_with fail
      go_meet
      exact ⟨Lib.hid (hr3.set 3 _), Lib.hid (only_set (only_below (only_drew HG.out) hb3) 3 _)⟩
  case' rest =>
    clear HR HG
    obtain ⟨HR, HG⟩ := hcut
  clear Hsub D0
  go_upto_region 2 with fail
  have hsub : Sl wc.drew (.slice (some ⟨g, o + 4, none⟩) (n - 4) (c - 4)) _ := ((Hs.out.only HG.out (fun A n c e => by cases e; exact hne)).rest 4 (by omega) hc4)
  rw [D4.out] at hsub
  have Hsub := Lib.hid hsub
  clear hsub
  go_cut [] (fun wx => Hid (Row wx gc t [c0, c1, c2, .int .u32 (tag : Int), .int .u32 (win : Int), .int .u16 0, .int .u16 0, .int .u32 0, .slice none 0 0, .slice none 0 0]) ∧ Hid (w.grownBy wx (some gc)))
  case first =>
    go_region_with ((go_at_call 51; refine (get32_be _ _ _ win _ _ Hsub.out (by omega)).mono ?_; rintro z w3 ⟨rfl, hb3⟩; have hr3 := HR.out.drew.below hb3 HR.out.lt; have y3 : w3.cell? ⟨gc, 4, none⟩ = some (.int .u32 0) := (by rw [hr3.cell]; rfl); have f3 := hr3.frozen 4))
    all_goals
      go_wp2_with fail
      go_meet
      exact ⟨Lib.hid (hr3.set 4 _), Lib.hid (only_set (only_below (only_drew HG.out) hb3) 4 _)⟩
  case' rest =>
    clear HR HG
    obtain ⟨HR, HG⟩ := hcut
  clear Hsub D4
  go_upto_region 3 with fail
  have hsub : Sl wc.drew (.slice (some ⟨g, o + 8, none⟩) (n - 8) (c - 8)) _ := ((Hs.out.only HG.out (fun A n c e => by cases e; exact hne)).rest 8 (by omega) hc8)
  rw [D8.out] at hsub
  have Hsub := Lib.hid hsub
  clear hsub
  go_cut [] (fun wx => Hid (Row wx gc t [c0, c1, c2, .int .u32 (tag : Int), .int .u32 (win : Int), .int .u16 (out : Int), .int .u16 0, .int .u32 0, .slice none 0 0, .slice none 0 0]) ∧ Hid (w.grownBy wx (some gc)))
  case first =>
    go_region_with ((go_at_call 27; refine (get16_be _ _ _ out _ _ Hsub.out (by omega)).mono ?_; rintro z w3 ⟨rfl, hb3⟩; have hr3 := HR.out.drew.below hb3 HR.out.lt; have y3 : w3.cell? ⟨gc, 5, none⟩ = some (.int .u16 0) := (by rw [hr3.cell]; rfl); have f3 := hr3.frozen 5))
    all_goals
      go_wp2_with fail
      go_meet
      exact ⟨Lib.hid (hr3.set 5 _), Lib.hid (only_set (only_below (only_drew HG.out) hb3) 5 _)⟩
  case' rest =>
    clear HR HG
    obtain ⟨HR, HG⟩ := hcut
  clear Hsub D8
  go_upto_region 4 with fail
  have hsub : Sl wc.drew (.slice (some ⟨g, o + 10, none⟩) (n - 10) (c - 10)) _ := ((Hs.out.only HG.out (fun A n c e => by cases e; exact hne)).rest 10 (by omega) hc10)
  rw [D10.out] at hsub
  have Hsub := Lib.hid hsub
  clear hsub
  go_cut [] (fun wx => Hid (Row wx gc t [c0, c1, c2, .int .u32 (tag : Int), .int .u32 (win : Int), .int .u16 (out : Int), .int .u16 (inn : Int), .int .u32 0, .slice none 0 0, .slice none 0 0]) ∧ Hid (w.grownBy wx (some gc)))
  case first =>
    go_region_with ((go_at_call 27; refine (get16_be _ _ _ inn _ _ Hsub.out (by omega)).mono ?_; rintro z w3 ⟨rfl, hb3⟩; have hr3 := HR.out.drew.below hb3 HR.out.lt; have y3 : w3.cell? ⟨gc, 6, none⟩ = some (.int .u16 0) := (by rw [hr3.cell]; rfl); have f3 := hr3.frozen 6))
    all_goals
      go_wp2_with fail
      go_meet
      exact ⟨Lib.hid (hr3.set 6 _), Lib.hid (only_set (only_below (only_drew HG.out) hb3) 6 _)⟩
  case' rest =>
    clear HR HG
    obtain ⟨HR, HG⟩ := hcut
  clear Hsub D10
  go_upto_region 5 with fail
  have hsub : Sl wc.drew (.slice (some ⟨g, o + 12, none⟩) (n - 12) (c - 12)) _ := ((Hs.out.only HG.out (fun A n c e => by cases e; exact hne)).rest 12 (by omega) hc12)
  rw [D12.out] at hsub
  have Hsub := Lib.hid hsub
  clear hsub
  go_cut [] (fun wx => Hid (Row wx gc t [c0, c1, c2, .int .u32 (tag : Int), .int .u32 (win : Int), .int .u16 (out : Int), .int .u16 (inn : Int), .int .u32 (tsn : Int), .slice none 0 0, .slice none 0 0]) ∧ Hid (w.grownBy wx (some gc)))
  case first =>
    go_region_with ((go_at_call 51; refine (get32_be _ _ _ tsn _ _ Hsub.out (by omega)).mono ?_; rintro z w3 ⟨rfl, hb3⟩; have hr3 := HR.out.drew.below hb3 HR.out.lt; have y3 : w3.cell? ⟨gc, 7, none⟩ = some (.int .u32 0) := (by rw [hr3.cell]; rfl); have f3 := hr3.frozen 7))
    all_goals
      go_wp2_with fail
      go_meet
      exact ⟨Lib.hid (hr3.set 7 _), Lib.hid (only_set (only_below (only_drew HG.out) hb3) 7 _)⟩
  case' rest =>
    clear HR HG
    obtain ⟨HR, HG⟩ := hcut
  clear Hsub D12
  have hzc : w.heap.size ≤ wc.heap.size := HG.out.size
  have HI : Hid (KB w.heap.size gc t [c0, c1, c2, .int .u32 (tag : Int), .int .u32 (win : Int), .int .u16 (out : Int), .int .u16 (inn : Int), .int .u32 (tsn : Int)] [.slice none 0 0] [] w wc (.slice none 0 0)) := Lib.hid ⟨HR.out, World.ownsRow_nil _ _ _ _, fun _ h => by simp at h, fun _ h => by simp at h, HG.out, hzc, hgcw⟩
  clear HR HG
  have hw0 : IntKind.i64.wrap ((n : Int) - 16) = (n : Int) - ((16 : Nat) : Int) := by simp [IntKind.wrap, IntKind.bits, IntKind.signed]; omega
  go_wp2_with fail
  go_loopw [5, 6] (fun a b wr => ∃ (k m : Nat) (cs : List Kp) (va : Value), k ≤ ds.length ∧ m ≤ n + 3 ∧ a = .int .i64 m ∧ b = .int .i64 ((n : Int) - (m : Int)) ∧ Hid (m = 16 + klen ds k) ∧ Hid (cs.map Kp.d = ds.take k) ∧ Hid (cs.length = k) ∧ Hid (KB w.heap.size gc t [c0, c1, c2, .int .u32 (tag : Int), .int .u32 (win : Int), .int .u16 (out : Int), .int .u16 (inn : Int), .int .u32 (tsn : Int)] [.slice none 0 0] cs w wr va)) (fun a _ _ => n - (intOf a).toNat)
  case atStart => exact ⟨0, 16, [], _, Nat.zero_le _, by omega, rfl, by go_num, Lib.hid rfl, Lib.hid rfl, Lib.hid rfl, HI⟩
  case round =>
    clear hw0 HI
    obtain ⟨k, m, cs, va, hk, hm, rfl, rfl, Hm, Hcs, Hle, HI⟩ := hrel
    by_cases hlt : k < ds.length
    · have hx : ds[k]? = some ds[k] := List.getElem?_eq_getElem hlt
      obtain ⟨ty, hty, hokk⟩ := HP.out _ (List.getElem_mem hlt)
      generalize ds[k] = d at hx hty hokk
      have Hx := Lib.hid hx
      have h5 := kflat_left hlt Hlast.out
      have hmn : m + 5 ≤ n := by have := Hm.out; have := Hn.out; omega
      have hlx := kpre_step_le hx
      rw [kpre_length hlt] at hlx
      have hmq : m + (4 + d.2.length) ≤ n := by have := Hm.out; have := Hn.out; omega
      have hS : Sl wr (.slice (some ⟨g, o, none⟩) n c) (ihead tag win out inn tsn ++ kflat ds) := Hs.out.only HI.out.bel (fun A n c e => by cases e; exact hne)
      have hmc : ¬ c = m := by omega
      obtain ⟨r, hr⟩ := kflat_drop hx tag win out inn tsn
      have hS2 := hS.rest m (by omega) hmc
      rw [Hm.out, hr, ← Hm.out] at hS2
      obtain ⟨tx, lx⟩ := d
      simp only at hty hokk hS2 hmq
      subst hty
      rw [Int.toNat_natCast] at hS2
      have HS2 := Lib.hid hS2
      have Hokk := Lib.hid hokk
      have hty2 : ty < 65536 := by obtain ⟨h | ⟨h, _⟩, _⟩ := hokk <;> omega
      have hlx2 := hokk.2
      have i1 : (n : Int) - (m : Int) > 0 := by omega
      have i2 : (n : Int) - (m : Int) > 4 := by omega
      have i3 : (m : Int) ≤ (n : Int) := by omega
      have hzr := HI.out.size
      clear hx hS hS2 h5 hlx hr hokk
      go_wp2_with fail
      have hN1 : Below wr.heap.size wr (wr.alloc (.cells #[.int .u16 0, .int .u8 0, .int .i64 0, .slice none 0 0] 84)) := (Below.refl _ _).alloc (Nat.le_refl _) _
      have hR1 := Row.new wr 84 #[.int .u16 0, .int .u8 0, .int .i64 0, .slice none 0 0]
      have hz1 : (wr.alloc (.cells #[.int .u16 0, .int .u8 0, .int .i64 0, .slice none 0 0] 84)).heap.size = wr.heap.size + 1 := by simp
      generalize wr.alloc (.cells #[.int .u16 0, .int .u8 0, .int .i64 0, .slice none 0 0] 84) = W at hN1 hR1 hz1 ⊢
      have hfp : Far (.slice (some ⟨g, o + m, none⟩) (n - m) (c - m)) wr.heap.size := fun A n c e => by cases e; simp only; omega
      have hS3 := HS2.out.below hN1
      refine (phunmarshal wr.heap.size _ _ _ _ _ [] _ (n - m) (c - m) ty lx r W hR1 hS3 hfp hlx2 hty2).mono ?_
      rintro e w2 ⟨A2, n2, c2, act, rfl, hR2, hS2', _, hG2⟩
      have hN2 : Below wr.heap.size wr w2 := below_only hN1 (by omega) hG2 (Nat.le_refl _)
      have HS3 := Lib.hid (hS3.only hG2 hfp)
      have HN2 := Lib.hid hN2
      have p0 : w2.cell? ⟨wr.heap.size, 0, none⟩ = some (.int .u16 (ty : Int)) := by rw [hR2.cell]; rfl
      have HR2 := Lib.hid hR2
      clear hS2' hG2 hN2 hR2 hS3 hfp hN1 hR1 hz1
      go_upto_region 14 with fail
      go_cut [9, 10] (fun s9 s10 wx => ∃ (g3 : Nat) (s3 : Value) (x0 x1 x2 : Int) (A3 : Option Addr) (n3 c3 : Nat), s9 = .iface (kT ty) (.pointer (some ⟨g3, 0, none⟩)) ∧ s10 = .nilIface ∧ Hid (Row wx g3 (kt ty) (.int .u16 x0 :: .int .u8 x1 :: .int .i64 x2 :: .slice A3 n3 c3 :: kRest ty s3)) ∧ Hid (Sl wx s3 lx) ∧ Hid (0 < lx.length → ∀ j, Far (.slice (some ⟨g, o + m, none⟩) (n - m) (c - m)) j → Far s3 j) ∧ w2.heap.size ≤ g3 ∧ Hid (Below w2.heap.size w2 wx))
      case first =>
        go_region_with ((go_at_call 30; refine (build_k ty _ _ _ lx r _ Hokk.out HS3.out.drew).mono ?_; rintro e w3 ⟨g3, s3, x0, x1, x2, A3, n3, c3, rfl, hR3, hS3, hF3, hg3, hB3⟩))
        all_goals
          go_wp2_with fail
          go_meet
          exact ⟨g3, s3, x0, x1, x2, A3, n3, c3, rfl, rfl, Lib.hid hR3, Lib.hid hS3, Lib.hid hF3, hg3, Lib.hid ((below_drewN (Below.refl w2.heap.size w2) 1).trans hB3)⟩
      case' rest =>
        obtain ⟨g3, s3, x0, x1, x2, A3, n3, c3, rfl, rfl, hR3, hS3, hF3, hg3, hB3⟩ := hcut
      replace hR3 := hR3.out
      replace hS3 := hS3.out
      replace hF3 := hF3.out
      replace hB3 := hB3.out
      obtain ⟨w3, hw3⟩ : ∃ w3 : World, w3 = wc := ⟨_, rfl⟩
      subst hw3
      have hN3 : Below wr.heap.size wr w3 := HN2.out.trans (hB3.mono HN2.out.size)
      have hzw : wr.heap.size ≤ w2.heap.size := HN2.out.size
      have hg3' : wr.heap.size < g3 := by have := HR2.out.lt; have : w2.heap.size ≤ g3 := hg3; omega
      have HI3 := Lib.hid (HI.out.below hN3)
      have HP3 := Lib.hid (HR2.out.below hB3 HR2.out.lt)
      have HR3 := Lib.hid hR3
      have HS3' := Lib.hid hS3
      have HF3 := Lib.hid (fun (hp : 0 < lx.length) j (hj : g ≠ j) => hF3 hp j (fun A n c e => by cases e; exact hj))
      have HN3 := Lib.hid hN3
      have y3 : w3.cell? ⟨gc, 8, none⟩ = some va := by rw [HI3.out.row.cell]; rfl
      have y3' : (w3.alloc (.cells #[.iface (kT ty) (.pointer (some ⟨g3, 0, none⟩))] 63)).cell? ⟨gc, 8, none⟩ = some va := by rw [(HI3.out.row.alloc _).cell]; rfl
      have hO3 := HI3.out.own
      rw [Hle.out] at hO3
      have HO3 := Lib.hid hO3
      have hU3 : w.heap.size ≤ w3.heap.size := HI3.out.size
      obtain ⟨q, hq⟩ : ∃ q, q = 4 + lx.length := ⟨_, rfl⟩
      have Hq := Lib.hid hq
      have hq4 : 4 ≤ q := by omega
      have hq1 : q ≤ 65535 := by omega
      have hqm : m + q ≤ n := by omega
      have hgpg : wr.heap.size ≠ gc := by have := HI.out.gU; omega
      have hva : va.ownBlock ≠ some wr.heap.size := fun e => by have := (HI.out.own.lt _ e).2; omega
      have Hva := Lib.hid hva
      clear hR3 hS3 hF3 hN3 hB3 hO3 hg3 hq p0 HS3 hva
      generalize hT : kT ty = T at y3' ⊢
      have HT := Lib.hid hT
      clear hT
      go_wp2_with (at_builtin; refine wpList_append_rd _ rfl _ _ rfl pmT w.heap.size va k _ rfl (HO3.out.alloc _) _ 1 [_] rfl (Rd.lit w3 63 [.iface T (.pointer (some ⟨g3, 0, none⟩))] 1 rfl (by omega)) ?c1 ?c2 ?c3 ?c4 ?_)
      case c1 => simp [Value.oneCell']
      case c2 => have := Hl.out; unfold maxLen; omega
      case c3 => have := Hl.out; omega
      case c4 => simp; omega
      intro v5 w5 hown5 hg5 hat5
      obtain ⟨A5, c5, e5⟩ := own_slice hown5
      subst e5
      have hr5 := (HI3.out.row.alloc (.cells #[.iface T (.pointer (some ⟨g3, 0, none⟩))] 63)).grown hg5 (fun e => by have := (HI3.out.own.lt _ e.symm).1; omega)
      have hp5 := (HP3.out.alloc (.cells #[.iface T (.pointer (some ⟨g3, 0, none⟩))] 63)).grown hg5 (fun e => Hva.out e.symm)
      have y5 : w5.cell? ⟨gc, 8, none⟩ = some va := by rw [hr5.cell]; rfl
      have f5 := hr5.frozen 8
      have hI5 := HI.out.step (c := ⟨g3, ty, s3, lx⟩) (i := 8) (v5 := .slice A5 (k + 1) c5) (o := (.cells #[.iface T (.pointer (some ⟨g3, 0, none⟩))] 63)) rfl HN3.out ⟨_, _, _, _, _, _, HR3.out, HS3'.out⟩ (by simp only; omega) Hokk.out (fun hp => ⟨HF3.out hp _ hne, fun j hj => HF3.out hp _ (by have := (HI.out.own.lt j hj).1; omega), fun d hd => HF3.out hp _ (by have := (HI.out.lies d hd).2.2.1; omega), HF3.out hp _ (by simp only; omega)⟩) (Nat.le_refl _) (by rw [Hle.out]; unfold Kp.v; rw [HT.out]; exact hown5) hg5 (by simpa using hat5)
      have HI5 := Lib.hid hI5
      have hp6 := hp5.far (p := ⟨gc, 8, none⟩) hgpg (.slice A5 (k + 1) c5)
      have y6 : (w5.setCell ⟨gc, 8, none⟩ (.slice A5 (k + 1) c5)).cell? ⟨wr.heap.size, 2, none⟩ = some (.int .i64 (q : Int)) := by rw [hp6.cell, Hq.out]; rfl
      have Hcs5 : Hid ((cs ++ [(⟨g3, ty, s3, lx⟩ : Kp)]).map Kp.d = ds.take (k + 1)) := Lib.hid (by rw [List.map_append, Hcs.out, List.take_add_one, Hx.out]; rfl)
      have Hlen5 : Hid ((cs ++ [(⟨g3, ty, s3, lx⟩ : Kp)]).length = k + 1) := Lib.hid (by simp [Hle.out])
      have hpad := padN_lt q
      have Hm5 : Hid (m + (q + padN q) = 16 + klen ds (k + 1)) := Lib.hid (by rw [klen_succ Hx.out, Hq.out]; have := Hm.out; simp only; omega)
      clear hI5 hown5 hg5 hat5 hr5 hp5 hp6 y3 y3'
      go_wp2_with fail
      refine (phlength wr.heap.size (q : Int) _ y6).mono ?_
      rintro e w' ⟨rfl, rfl⟩
      go_wp2_with fail
      refine (getpad_any q _ (by omega)).mono ?_
      rintro e w' ⟨rfl, rfl⟩
      go_wp2_with fail
      refine (phlength wr.heap.size (q : Int) _ y6).mono ?_
      rintro e w' ⟨rfl, rfl⟩
      generalize padN q = pq at hpad Hm5 ⊢
      have hw1 : IntKind.i64.wrap ((q : Int) + (pq : Int)) = ((q + pq : Nat) : Int) := by simp [IntKind.wrap, IntKind.bits, IntKind.signed]; omega
      have hw2 : IntKind.i64.wrap ((m : Int) + ((q + pq : Nat) : Int)) = ((m + (q + pq) : Nat) : Int) := by simp [IntKind.wrap, IntKind.bits, IntKind.signed]; omega
      have hw3 : IntKind.i64.wrap ((n : Int) - (m : Int) - ((q + pq : Nat) : Int)) = (n : Int) - ((m + (q + pq) : Nat) : Int) := by simp [IntKind.wrap, IntKind.bits, IntKind.signed]; omega
      go_wp2_with fail
      refine (phlength wr.heap.size (q : Int) _ y6).mono ?_
      rintro e w' ⟨rfl, rfl⟩
      go_wp2
      go_roundw
      case rel => exact ⟨k + 1, m + (q + pq), _, _, by omega, by omega, by go_num, by go_num, Hm5, Hcs5, Hlen5, HI5⟩
      case measure => simp [intOf]; omega
    · obtain rfl : k = ds.length := by omega
      have hle := (kpre_le ds ds.length (Nat.le_refl _)).1
      have i1 : ¬ (n : Int) - (m : Int) > 0 := by have := Hm.out; have := Hn.out; unfold kflat at this; omega
      have hcs := Hcs.out
      rw [List.take_length] at hcs
      have Hcs' := Lib.hid hcs
      clear hcs hle
      go_wp2
      go_ret
      exact ⟨cs, va, rfl, Hcs'.out, HI.out⟩
end Go.Proofs.YtokkhfjlbnochaaDoor
