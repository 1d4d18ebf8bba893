/- Contracts of getPadding, padByte and chunkInitCommon.marshal. Conditions: the numbers fit, the length fits 16 bits. -/
import Derived.Test.YtokkhfjlbnochaaDoorInm
namespace Go.Proofs.YtokkhfjlbnochaaDoor
open Go.RowKit Go.Lib

theorem getpad_any (n : Nat) (w : World) (h1 : n ≤ 1000000000) :
    Calls Tryd.prog 50 #[.int .i64 (n : Int)] w fun e w' => e = .returned (.int .i64 (padN n : Nat)) ∧ w = w' := by
  go_enter Tryd.func50, Tryd.ntmps50
  go_wp2
  go_ret
  exact ⟨ret_int (by unfold padN; omega), rfl⟩

theorem padbyte_any (v : Value) (l : List UInt8) (k base : Nat) (w : World) (h : w.ownsRow base 5 1 v l.length (bvs l)) (hb : base ≤ w.heap.size) (hl : l.length + k ≤ 100000000) :
    Calls Tryd.prog 49 #[v, .int .i64 (k : Int)] w fun e w' => ∃ v', e = .returned v' ∧ w'.ownsRow base 5 1 v' (l ++ List.replicate k 0).length (bvs (l ++ List.replicate k 0)) ∧ w.grownBy w' v.ownBlock := by
  have H := Lib.hid h
  have h0 : ¬ (k : Int) < 0 := by omega
  clear h
  go_enter Tryd.func49, Tryd.ntmps49
  go_wp2_with (at_make; refine wpList_make_row _ rfl _ _ _ rfl bT rfl _ _ _ _ k rfl rfl (by rfl) (by rfl) (by omega) (by unfold maxLen; omega) ?_)
  intro w1 hrow hb1
  have hrow' : Row w1 w.heap.size 5 (bvs (List.replicate k 0)) := by rw [bvs_zero]; exact hrow
  have hS : Sl w1 (.slice (some ⟨w.heap.size, 0, none⟩) k k) (List.replicate k 0) := hrow'.sl (by simp) (Nat.le_refl _) (by unfold maxLen; omega)
  have hS2 : Rd w1 1 k (.slice (some ⟨w.heap.size, 0, none⟩) k k) (bvs (List.replicate k 0)) := by have := hS; unfold Sl at this; rwa [List.length_replicate] at this
  have HS := Lib.hid hS2
  have HO := Lib.hid (H.out.kept (grown_of_below hb1 none) (by cases h : v.ownBlock <;> simp))
  have Hb1 := Lib.hid hb1
  clear hrow hrow' hS hS2 hb1
  go_wp2_with (at_builtin; refine wpList_append_rd _ rfl _ _ rfl bT base v l.length (bvs l) rfl HO.out _ k (bvs (List.replicate k 0)) rfl HS.out (bvs_one _) ?c1 ?c2 ?c3 ?_)
  case c1 => unfold maxLen; omega
  case c2 => omega
  case c3 => have := Hb1.out.size; omega
  intro v2 w2 hown hg _
  have HO2 : Hid (w2.ownsRow base 5 1 v2 (l ++ List.replicate k 0).length (bvs (l ++ List.replicate k 0))) := Lib.hid (by rw [bvs_append, List.length_append, List.length_replicate]; exact hown)
  have HG2 := Lib.hid (only_trans (grown_of_below Hb1.out v.ownBlock) hg)
  clear hown hg
  go_wp2
  go_ret
  exact ⟨v2, rfl, HO2.out, HG2.out⟩

/-- INIT's five numbers. -/
def ihead (tag win out inn tsn : Nat) : List UInt8 := be 4 tag ++ (be 4 win ++ (be 2 out ++ (be 2 inn ++ be 4 tsn)))
theorem ihead_length (tag win out inn tsn : Nat) : (ihead tag win out inn tsn).length = 16 := by simp [ihead, be_length]
theorem ihead_put (tag win out inn tsn : Nat) : put (put (put (put (put (List.replicate 16 0) 0 (be 4 tag)) 4 (be 4 win)) 8 (be 2 out)) 10 (be 2 inn)) 12 (be 4 tsn) = ihead tag win out inn tsn := by
  have h1 := put_put (List.replicate 16 0) 0 (be 4 tag) (be 4 win) (by simp [be_length])
  have h2 := put_put (List.replicate 16 0) 0 (be 4 tag ++ be 4 win) (be 2 out) (by simp [be_length])
  have h3 := put_put (List.replicate 16 0) 0 (be 4 tag ++ be 4 win ++ be 2 out) (be 2 inn) (by simp [be_length])
  have h4 := put_put (List.replicate 16 0) 0 (be 4 tag ++ be 4 win ++ be 2 out ++ be 2 inn) (be 4 tsn) (by simp [be_length])
  simp only [List.length_append, be_length, Nat.zero_add] at h1 h2 h3 h4
  rw [h1, h2, h3, h4, put_whole _ _ (by simp [be_length])]
  simp [ihead]

/-- Bytes are handed back in new memory, with no error; nothing below B has changed, nor block gc. -/
def RetIc (B gc : Nat) (t : TypeId) (cells : List Value) (w : World) (l : List UInt8) (e : Ending) (w' : World) : Prop :=
  ∃ A n c, e = .returned (.tuple #[.slice A n c, .nilIface]) ∧ Sl w' (.slice A n c) l ∧ Below B w w' ∧ Row w' gc t cells ∧ w.heap.size ≤ w'.heap.size ∧ ∀ g, g < w.heap.size → Far (.slice A n c) g

def ds (cs : List Kp) : List (Int × List UInt8) := cs.map Kp.d
theorem ds_get {cs : List Kp} {k : Nat} {c : Kp} (h : cs[k]? = some c) : (ds cs)[k]? = some c.d := by simp [ds, h]
theorem kpre_next {cs : List Kp} {k : Nat} {c : Kp} (h : cs[k]? = some c) (hl : ¬ k + 1 < cs.length) : kpre (ds cs) (k + 1) = kpre (ds cs) k ++ tlv c.ty c.l := by
  rw [kpre, kpiece_last (ds_get h) (by simpa [ds] using hl)]; simp [Kp.d]
theorem kpre_next' {cs : List Kp} {k : Nat} {c : Kp} (h : cs[k]? = some c) (hl : k + 1 < cs.length) : kpre (ds cs) (k + 1) = kpre (ds cs) k ++ tlv c.ty c.l ++ List.replicate (padN (4 + c.l.length)) 0 := by
  rw [kpre, kpiece_mid (ds_get h) (by simpa [ds] using hl)]; simp [Kp.d, padded, tlv_length]

set_option maxRecDepth 20000 in
set_option maxHeartbeats 1600000 in
theorem icmarshal (B gc : Nat) (t : TypeId) (h0 h1 h2 : Value) (tag win out inn tsn : Nat) (rest : List Value) (Al : Option Addr) (nl cl : Nat) (cs : List Kp) (w : World)
    (hr : Row w gc t (h0 :: h1 :: h2 :: .int .u32 tag :: .int .u32 win :: .int .u16 out :: .int .u16 inn :: .int .u32 tsn :: .slice Al nl cl :: rest)) (hL : Rd w 1 nl (.slice Al nl cl) (cs.map Kp.v)) (hn : nl = cs.length) (ha : KAll cs w) (hsd : KSide cs gc w.heap.size) (hBc : ∀ c ∈ cs, B ≤ c.g) (hBw : B ≤ w.heap.size)
    (hv1 : tag ≤ 4294967295) (hv2 : win ≤ 4294967295) (hv3 : out ≤ 65535) (hv4 : inn ≤ 65535) (hv5 : tsn ≤ 4294967295) (hlen : (kflat (ds cs)).length ≤ 60000) (hnl : nl ≤ 1000) :
    Calls Tryd.prog 31 #[.pointer (some ⟨gc, 3, none⟩)] w (RetIc B gc t (h0 :: h1 :: h2 :: .int .u32 tag :: .int .u32 win :: .int .u16 out :: .int .u16 inn :: .int .u32 tsn :: .slice Al nl cl :: rest) w (ihead tag win out inn tsn ++ kflat (ds cs))) := by
  have hgc := hr.lt
  have hF : 0 < nl * 1 → ∀ g, w.heap.size ≤ g → Far (.slice Al nl cl) g := by
    intro hp g hg A m c hv
    obtain ⟨A', c', hv', hnc, hcm, hl0, h0, hc⟩ := hL
    rw [hv] at hv'
    injection hv' with e1 e2 e3
    subst e1
    obtain ⟨g', o, hA, hg'⟩ := hc hp
    injection hA with hA
    subst hA
    have hx0 : (cs.map Kp.v)[0]? = some ((cs.map Kp.v)[0]'(by omega)) := List.getElem?_eq_getElem (by omega)
    have := World.block_lt_of_cell? w ⟨g', o + 0, none⟩ (hg' 0 _ hx0)
    intro e
    simp only at e this
    omega
  have HFx := Lib.hid (⟨hsd, hBc, hBw, hgc, hF⟩ : KFix B gc nl (.slice Al nl cl) cs w)
  have Hr := Lib.hid hr
  have HL := Lib.hid hL
  have Hn := Lib.hid hn
  have Ha := Lib.hid ha
  have Hlen := Lib.hid hlen
  obtain ⟨A', c', hv, hnc, hcm, hl0, h00, hc⟩ := hL
  injection hv with e1 e2 e3
  subst e1 e3
  unfold maxLen at hcm
  clear hr hn ha hsd hBc hF hc h00 hl0 e2 hlen
  go_enter Tryd.func31, Tryd.ntmps31
  go_wp2_with (at_make; refine wpList_make_row _ rfl _ _ _ rfl bT rfl _ _ _ _ 16 rfl rfl (by rfl) (by rfl) (by omega) (by unfold maxLen; omega) ?_)
  intro w1 hrow hb1
  have hrow' : Row w1 w.heap.size 5 (bvs (List.replicate 16 0)) := by rw [bvs_zero]; exact hrow
  have hR := Hr.out.below hb1 hgc
  have P0 := Lib.hid (Puts.start hrow')
  have R0 := Lib.hid hR
  have Hb1 := Lib.hid hb1
  have k3 : w1.cell? ⟨gc, 3, none⟩ = some (.int .u32 tag) := by rw [hR.cell]; rfl
  have hne : ¬ gc = w.heap.size := by omega
  clear hrow hrow' hR hb1
  go_wp2_with fail
  refine wp_region_tail 7 (by kernel_rfl) (by kernel_rfl) ?_
  simp only [List.take_succ_cons, List.take_zero, List.drop_succ_cons, List.drop_zero]
  repeat still_step
  refine wpStill_nil ?_
  go_wp2_with fail
  refine (put32_any _ 0 _ _ (tag : Int) _ _ w1.drew P0.out.drew.1 (by simp) (by omega) (by omega) (by omega)).mono ?_
  rintro z w2 ⟨rfl, hP⟩
  have hR := R0.out.drew.grown hP.2 (by intro e; injection e with e; exact hne e)
  replace hP := P0.out.drew.trans hP
  have k4 : w2.cell? ⟨gc, 4, none⟩ = some (.int .u32 win) := by rw [hR.cell]; rfl
  have P1 := Lib.hid hP
  have L1 : Hid ((put (List.replicate 16 0) 0 (be 4 (tag : Int).toNat)).length = 16) := by show _ = 16; rw [put_length _ _ _ (by simp [be_length])]; simp
  have R1 := Lib.hid hR
  clear hP hR k3 P0 R0
  go_wp2_with fail
  refine wp_region_tail 7 (by kernel_rfl) (by kernel_rfl) ?_
  simp only [List.take_succ_cons, List.take_zero, List.drop_succ_cons, List.drop_zero]
  repeat still_step
  refine wpStill_nil ?_
  go_wp2_with fail
  refine (put32_any _ 4 _ _ (win : Int) _ _ w2.drew P1.out.drew.1 (by have := L1.out; omega) (by omega) (by omega) (by omega)).mono ?_
  rintro z w3 ⟨rfl, hP⟩
  have hR := R1.out.drew.grown hP.2 (by intro e; injection e with e; exact hne e)
  replace hP := P1.out.drew.trans hP
  have k5 : w3.cell? ⟨gc, 5, none⟩ = some (.int .u16 out) := by rw [hR.cell]; rfl
  have P2 := Lib.hid hP
  have L2 : Hid ((put (put (List.replicate 16 0) 0 (be 4 (tag : Int).toNat)) 4 (be 4 (win : Int).toNat)).length = 16) := by have := L1.out; show _ = 16; rw [put_length _ _ _ (by rw [be_length]; omega)]; exact this
  have R2 := Lib.hid hR
  clear hP hR k4 P1 R1
  go_wp2_with fail
  refine wp_region_tail 7 (by kernel_rfl) (by kernel_rfl) ?_
  simp only [List.take_succ_cons, List.take_zero, List.drop_succ_cons, List.drop_zero]
  repeat still_step
  refine wpStill_nil ?_
  go_wp2_with fail
  refine (put16_any _ 8 _ _ (out : Int) _ _ w3.drew P2.out.drew.1 (by have := L2.out; omega) (by omega) (by omega) (by omega)).mono ?_
  rintro z w4 ⟨rfl, hP⟩
  have hR := R2.out.drew.grown hP.2 (by intro e; injection e with e; exact hne e)
  replace hP := P2.out.drew.trans hP
  have k6 : w4.cell? ⟨gc, 6, none⟩ = some (.int .u16 inn) := by rw [hR.cell]; rfl
  have P3 := Lib.hid hP
  have L3 : Hid ((put (put (put (List.replicate 16 0) 0 (be 4 (tag : Int).toNat)) 4 (be 4 (win : Int).toNat)) 8 (be 2 (out : Int).toNat)).length = 16) := by have := L2.out; show _ = 16; rw [put_length _ _ _ (by rw [be_length]; omega)]; exact this
  have R3 := Lib.hid hR
  clear hP hR k5 P2 R2
  go_wp2_with fail
  refine wp_region_tail 7 (by kernel_rfl) (by kernel_rfl) ?_
  simp only [List.take_succ_cons, List.take_zero, List.drop_succ_cons, List.drop_zero]
  repeat still_step
  refine wpStill_nil ?_
  go_wp2_with fail
  refine (put16_any _ 10 _ _ (inn : Int) _ _ w4.drew P3.out.drew.1 (by have := L3.out; omega) (by omega) (by omega) (by omega)).mono ?_
  rintro z w5 ⟨rfl, hP⟩
  have hR := R3.out.drew.grown hP.2 (by intro e; injection e with e; exact hne e)
  replace hP := P3.out.drew.trans hP
  have k7 : w5.cell? ⟨gc, 7, none⟩ = some (.int .u32 tsn) := by rw [hR.cell]; rfl
  have P4 := Lib.hid hP
  have L4 : Hid ((put (put (put (put (List.replicate 16 0) 0 (be 4 (tag : Int).toNat)) 4 (be 4 (win : Int).toNat)) 8 (be 2 (out : Int).toNat)) 10 (be 2 (inn : Int).toNat)).length = 16) := by have := L3.out; show _ = 16; rw [put_length _ _ _ (by rw [be_length]; omega)]; exact this
  have R4 := Lib.hid hR
  clear hP hR k6 P3 R3
  go_wp2_with fail
  refine wp_region_tail 7 (by kernel_rfl) (by kernel_rfl) ?_
  simp only [List.take_succ_cons, List.take_zero, List.drop_succ_cons, List.drop_zero]
  repeat still_step
  refine wpStill_nil ?_
  go_wp2_with fail
  refine (put32_any _ 12 _ _ (tsn : Int) _ _ w5.drew P4.out.drew.1 (by have := L4.out; omega) (by omega) (by omega) (by omega)).mono ?_
  rintro z w6 ⟨rfl, hP⟩
  have hR := R4.out.drew.grown hP.2 (by intro e; injection e with e; exact hne e)
  replace hP := P4.out.drew.trans hP
  rw [Int.toNat_natCast, Int.toNat_natCast, Int.toNat_natCast, Int.toNat_natCast, Int.toNat_natCast, ihead_put] at hP
  obtain ⟨hd, hhd⟩ : ∃ hd, hd = ihead tag win out inn tsn := ⟨_, rfl⟩
  have hh : hd.length = 16 := by rw [hhd, ihead_length]
  rw [← hhd] at hP
  have Hhd := Lib.hid hhd
  have hg6 : w.grownBy w6 none := ⟨by rw [hP.2.os, Hb1.out.os], by rw [hP.2.tape, Hb1.out.tape], by rw [hP.2.output, Hb1.out.output], Nat.le_trans Hb1.out.size hP.2.size, fun i hi _ => (hP.2.block i (by have := Hb1.out.size; omega) (by intro e; injection e with e; omega)).trans (Hb1.out.block i hi)⟩
  have hb6 : Below w.heap.size w w6 := ⟨hg6.os, hg6.tape, hg6.output, hg6.size, fun i hi => hg6.block i hi (by simp)⟩
  have hI : KMem B gc t (h0 :: h1 :: h2 :: .int .u32 tag :: .int .u32 win :: .int .u16 out :: .int .u16 inn :: .int .u32 tsn :: .slice Al nl cl :: rest) (.slice Al nl cl) nl cs w w6 (.slice (some ⟨w.heap.size, 0, none⟩) 16 16) (hd ++ kpre (ds cs) 0) :=
    ⟨hR, by rw [show hd ++ kpre (ds cs) 0 = hd by simp [kpre], hh]; exact hP.1.own (Nat.le_refl _) (by simp [bvs, hh]) (by unfold maxLen; omega), Ha.out.below hb6, HL.out.below hb6, hb6.mono hBw, hb6.size⟩
  have k8 : w6.cell? ⟨gc, 8, none⟩ = some (.slice Al nl cl) := by rw [hR.cell]; rfl
  have HI := Lib.hid hI
  have Hh := Lib.hid hh
  clear hhd hh hP hR hI hg6 hb6 k7 P4 R4 L1 L2 L3 L4
  go_wp2_with fail
  go_loopw [4, 55] (fun v i wr => ∃ k : Nat, k ≤ nl ∧ i = .int .i64 k ∧ Hid (KMem B gc t (h0 :: h1 :: h2 :: .int .u32 tag :: .int .u32 win :: .int .u16 out :: .int .u16 inn :: .int .u32 tsn :: .slice Al nl cl :: rest) (.slice Al nl cl) nl cs w wr v (hd ++ kpre (ds cs) k))) (fun _ i _ => nl - (intOf i).toNat)
  case atStart => exact ⟨0, Nat.zero_le _, rfl, HI⟩
  case round =>
    clear k8 HI
    obtain ⟨k, hk, rfl, HM⟩ := hrel
    by_cases hlt : k < nl
    · have hx : cs[k]? = some (cs[k]'(by have := Hn.out; omega)) := List.getElem?_eq_getElem _
      generalize cs[k]'(by have := Hn.out; omega) = c at hx
      have hm := List.mem_of_getElem? hx
      obtain ⟨hok, hneg, hcg, hcf⟩ := HFx.out.side c hm
      obtain ⟨A', c', hv, hnc', hcm', hl0, h00, hc⟩ := HM.out.rd
      injection hv with e1 e2 e3
      subst e1 e3
      obtain ⟨g, o, rfl, hg⟩ := hc (by omega)
      have hcell : wr.cell? ⟨g, o + k, none⟩ = some (.iface (kT c.ty) (.pointer (some ⟨c.g, 0, none⟩))) := hg k _ (by simp [hx, Kp.v])
      have hmeth : ∀ (a : Addr) (w : World), (method 254 (kT c.ty) (.pointer (some a)) "loop.example/pub-g03037/pub/sctp.marshal").run Tryd.prog w = .ok (kF c.ty, .pointer (some a)) w := by
        rcases hok.1 with e | ⟨e, _⟩ <;> rw [e] <;> intro a w
        · exact (show (method 254 (kT 7) (.pointer (some a)) "loop.example/pub-g03037/pub/sctp.marshal").run Tryd.prog w = .ok (kF 7, .pointer (some a)) w by kernel_rfl)
        · exact (show (method 254 (kT 49152) (.pointer (some a)) "loop.example/pub-g03037/pub/sctp.marshal").run Tryd.prog w = .ok (kF 49152, .pointer (some a)) w by kernel_rfl)
      have henter : ∀ (v : Value) (w : World), (callFunc (kF c.ty) #[v]).run Tryd.prog w = .ok (.enter (kF c.ty) #[v]) w := by
        rcases hok.1 with e | ⟨e, _⟩ <;> rw [e] <;> intro v w
        · exact (show (callFunc (kF 7) #[v]).run Tryd.prog w = .ok (.enter (kF 7) #[v]) w by kernel_rfl)
        · exact (show (callFunc (kF 49152) #[v]).run Tryd.prog w = .ok (.enter (kF 49152) #[v]) w by kernel_rfl)
      have HX := Lib.hid hx
      have HMc := Lib.hid hm
      have Hcal := Lib.hid (kmarshal c wr (HM.out.all c hm) hok (fun hp => (hcf hp).2.2 c hm))
      generalize kT c.ty = T at hcell hmeth
      generalize kF c.ty = F at hmeth Hcal henter
      generalize hcg' : c.g = G at hcell Hcal
      have HG' := Lib.hid hcg'
      have hok' := Lib.hid hok
      clear hcg' hx hm hc hg h00 hl0 e2 hcf hneg hcg hok
      go_wp2_with fail
      refine Hcal.out.mono ?_
      rintro e w7 ⟨A2, n2, c2, rfl, hS2, hR2, hG2, _⟩
      have hM2 := HM.out.marshal HFx.out HMc.out hG2 hR2
      have HM2 := Lib.hid hM2
      have HS2 := Lib.hid hS2
      have hle := kpre_step_le (ds_get HX.out)
      have hlS := hS2.len
      rw [tlv_length] at hlS
      have hl2 : Hid ((hd ++ kpre (ds cs) k).length ≤ 60016) := by show _ ≤ _; rw [List.length_append, Hh.out]; have := Hlen.out; omega
      have hl3 : Hid ((tlv c.ty c.l).length ≤ 60000) := by show _ ≤ _; rw [tlv_length]; have := Hlen.out; simp only [Kp.d] at hle; omega
      have HlS := Lib.hid hlS
      have k8 : w7.cell? ⟨gc, 8, none⟩ = some (.slice (some ⟨g, o, none⟩) nl cl) := by rw [hM2.row.cell]; rfl
      clear hS2 hR2 hG2 hle hlS hM2 hcell hmeth henter Hcal HM
      go_wp2_with (at_builtin; refine wpList_append_rd _ rfl _ _ rfl bT w.heap.size u4 _ _ rfl HM2.out.own (.slice A2 n2 c2) (tlv c.ty c.l).length (bvs (tlv c.ty c.l)) rfl HS2.out (bvs_one _) ?c1 ?c2 HM2.out.size ?_)
      case c1 => have := hl2.out; have := hl3.out; unfold maxLen; omega
      case c2 => have := hl2.out; have := hl3.out; omega
      intro v3 w8 hown3 hg3 _
      have hM3 := HM2.out.append (l' := hd ++ kpre (ds cs) k ++ tlv c.ty c.l) HFx.out (by rw [bvs_append, List.length_append, List.length_append]; exact hown3) hg3
      have k8 : w8.cell? ⟨gc, 8, none⟩ = some (.slice (some ⟨g, o, none⟩) nl cl) := by rw [hM3.row.cell]; rfl
      have HM3 := Lib.hid hM3
      clear hown3 hg3 hM3 HM2 HS2
      have hw : IntKind.i64.wrap ((nl : Int) - 1) = ((nl - 1 : Nat) : Int) := by simp [IntKind.wrap, IntKind.bits, IntKind.signed]; omega
      by_cases hlast : k = nl - 1
      · subst hlast
        have HM4 : Hid (KMem B gc t (h0 :: h1 :: h2 :: .int .u32 tag :: .int .u32 win :: .int .u16 out :: .int .u16 inn :: .int .u32 tsn :: .slice (some ⟨g, o, none⟩) nl cl :: rest) (.slice (some ⟨g, o, none⟩) nl cl) nl cs w w8 v3 (hd ++ kpre (ds cs) (nl - 1 + 1))) := Lib.hid (by rw [kpre_next HX.out (by have := Hn.out; omega), ← List.append_assoc]; exact HM3.out)
        go_wp2
        go_roundw
        case rel => exact ⟨nl - 1 + 1, by omega, by go_num, HM4⟩
        case measure => simp [intOf]; omega
      · have hkn : ¬ (k : Int) = ((nl - 1 : Nat) : Int) := by omega
        go_wp2_with fail
        refine (getpad_any n2 _ (by have := HlS.out; have := hl3.out; rw [tlv_length] at this; omega)).mono ?_
        rintro e w9 ⟨rfl, rfl⟩
        go_wp2_with fail
        refine (padbyte_any v3 (hd ++ kpre (ds cs) k ++ tlv c.ty c.l) (padN n2) w.heap.size _ HM3.out.own HM3.out.size (by have := padN_lt n2; have := hl2.out; have := hl3.out; rw [List.length_append]; omega)).mono ?_
        rintro e w9 ⟨v4, rfl, hown4, hg4⟩
        have hM4 := HM3.out.append HFx.out hown4 hg4
        have HM4 : Hid (KMem B gc t (h0 :: h1 :: h2 :: .int .u32 tag :: .int .u32 win :: .int .u16 out :: .int .u16 inn :: .int .u32 tsn :: .slice (some ⟨g, o, none⟩) nl cl :: rest) (.slice (some ⟨g, o, none⟩) nl cl) nl cs w w9 v4 (hd ++ kpre (ds cs) (k + 1))) := Lib.hid (by rw [kpre_next' HX.out (by have := Hn.out; omega), ← HlS.out, ← List.append_assoc, ← List.append_assoc]; exact hM4)
        clear hown4 hg4 hM4 HM3 k8
        go_wp2
        go_roundw
        case rel => exact ⟨k + 1, by omega, by go_num, HM4⟩
        case measure => simp [intOf]; omega
    · obtain rfl : k = nl := by omega
      have hO := HM.out.own
      have hE : hd ++ kpre (ds cs) k = hd ++ kflat (ds cs) := by rw [kflat, show (ds cs).length = k by rw [ds, List.length_map]; exact Hn.out.symm]
      rw [hE] at hO
      obtain ⟨Av, cv, hv⟩ := own_slice hO
      subst hv
      have hfar := fun g hg => own_far hO (g := g) hg
      have HO2 := Lib.hid (Sl.of_own hO)
      have Hfar := Lib.hid hfar
      have HMM := HM
      clear hO hE hfar
      go_wp2
      go_ret2
      exact ⟨_, _, _, rfl, by rw [← Hhd.out]; exact HO2.out, HMM.out.bel, HMM.out.row, HMM.out.size, Hfar.out⟩
end Go.Proofs.YtokkhfjlbnochaaDoor
