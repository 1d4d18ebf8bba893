/- Contract of the unmarshal of FORWARD TSN. Conditions: the numbers fit; at most 1000 streams. -/
import Derived.Test.YtnaihmmfnffejaaDoorFwT
namespace Go.Proofs.YtnaihmmfnffejaaDoor
open Go.RowKit Go.Lib

theorem fwbody_drop (tsn : Nat) (l : List (Int × Int)) (k : Nat) (p : Int × Int) (h : l[k]? = some p) : (fwbody tsn l).drop (4 + 4 * k) = be 2 p.1.toNat ++ (be 2 p.2.toNat ++ sbytes (l.drop (k + 1))) := by
  have e : fwbody tsn l = fwbody tsn (l.take k) ++ sbytes (l.drop k) := by
    unfold fwbody
    rw [List.append_assoc]
    congr 1
    unfold sbytes
    rw [← List.flatMap_append, List.take_append_drop]
  have hk : k < l.length := (List.getElem?_eq_some_iff.1 h).1
  have hl : (fwbody tsn (l.take k)).length = 4 + 4 * k := by rw [fwbody_length, List.length_take, Nat.min_eq_left (by omega)]
  rw [e, ← hl, List.drop_left]
  have hd : l.drop k = p :: l.drop (k + 1) := by
    rw [List.drop_eq_getElem_cons hk]
    congr 1
    exact (List.getElem?_eq_some_iff.1 h).2
  rw [hd]
  simp [sbytes]

/-- An append of the call's own changed a block that is new. -/
theorem only_own {a b c : World} {r s : Option Nat} (h : a.grownBy b r) (k : b.grownBy c s) (hg : ∀ j, s = some j → a.heap.size ≤ j) : a.grownBy c r :=
  ⟨k.os.trans h.os, k.tape.trans h.tape, k.output.trans h.output, Nat.le_trans h.size k.size, fun i hi hne => (k.block i (Nat.lt_of_lt_of_le hi h.size) (by intro e; have := hg i e.symm; omega)).trans (h.block i hi hne)⟩
/-- A callee changed one block, and that is a new one. -/
theorem only_new {a b c : World} {r : Option Nat} {g : Nat} (h : a.grownBy b r) (k : b.grownBy c (some g)) (hg : a.heap.size ≤ g) : a.grownBy c r :=
  ⟨k.os.trans h.os, k.tape.trans h.tape, k.output.trans h.output, Nat.le_trans h.size k.size, fun i hi hne => (k.block i (Nat.lt_of_lt_of_le hi h.size) (by intro e; injection e with e; omega)).trans (h.block i hi hne)⟩

def FwRead (w : World) (gc : Nat) (t : TypeId) (tsn : Nat) (l : List (Int × Int)) (e : Ending) (w' : World) : Prop :=
  ∃ v2 A2 c2, e = .returned .nilIface ∧ Row w' gc t [.int .u8 192, .int .u8 0, v2, .int .u32 (tsn : Int), .slice A2 l.length c2] ∧ Rd w' 2 l.length (.slice A2 l.length c2) (prs .u16 l) ∧ w.grownBy w' (some gc)

set_option maxRecDepth 20000 in
set_option maxHeartbeats 3200000 in
theorem fwunmarshal (gc : Nat) (t : TypeId) (A : Option Addr) (n c : Nat) (tsn : Nat) (l : List (Int × Int)) (w : World) (hr : Row w gc t [.int .u8 0, .int .u8 0, .slice none 0 0, .int .u32 0, .slice none 0 0])
    (hs : Sl w (.slice A n c) (chunk 192 0 (fwbody tsn l))) (hf : Far (.slice A n c) gc) (hl : l.length ≤ 1000) (ht : tsn < 4294967296) (hp : ∀ p ∈ l, Ok16 p) :
    Calls Tryd.prog 73 #[.pointer (some ⟨gc, 0, none⟩), .slice A n c] w (FwRead w gc t tsn l) := by
  rw [chunk_hd0] at hs
  have Hr := Lib.hid hr
  have Hs := Lib.hid hs
  have Hf := Lib.hid hf
  have Hl := Lib.hid hl
  have Ht := Lib.hid ht
  have HP := Lib.hid hp
  clear hr hs hf hl ht hp
  go_enter Tryd.func73, Tryd.ntmps73
  go_wp2_with fail
  refine (hunmarshal_ok gc t _ _ _ [_, _] A n c _ _ (fwbody tsn l) 0 _ Hr.out Hs.out Hf.out (by rw [fwbody_length]; have := Hl.out; omega) (by omega)).mono ?_
  rintro e w2 ⟨Ar, nr, cr, rfl, hr2, hs2, hf2, hg2⟩
  have hn := hs2.len
  rw [fwbody_length] at hn
  have Hs2 := Lib.hid hs2
  obtain ⟨A', c', hv, hnc, hcm, hl0, h0, hc⟩ := hs2
  injection hv with e1 e2 e3
  subst e1 e3
  obtain ⟨g, o, rfl, _⟩ := hc (by rw [fwbody_length]; omega)
  have hne : ¬ g = gc := fun e => hf2 _ _ _ rfl e
  have hcr : nr ≤ cr := by omega
  have hcm' : cr ≤ 9223372036854775807 := by unfold maxLen at hcm; omega
  have n4 : 4 ≤ nr := by omega
  have n5 : nr ≤ 5000 := by have := Hl.out; omega
  have hc0 : ¬ cr = 0 := by omega
  have i4 : ¬ (nr : Int) < 4 := by omega
  have x2 : w2.cell? ⟨gc, 2, none⟩ = some (.slice (some ⟨g, o, none⟩) nr cr) := by rw [hr2.cell]; rfl
  have Hn := Lib.hid hn
  have Hr2 := Lib.hid hr2
  have Hg2 := Lib.hid hg2
  clear hr2 hf2 hg2 hc h0 hl0 hcm hnc e2 hn
  go_upto_region 6 with fail
  have Hsub : Hid (Sl w2.drew (.slice (some ⟨g, o, none⟩) nr cr) (be 4 tsn ++ sbytes l)) := Hs2
  go_cut [] (fun wx => Hid (Row wx gc t [.int .u8 192, .int .u8 0, .slice (some ⟨g, o, none⟩) nr cr, .int .u32 (tsn : Int), .slice none 0 0]) ∧ Hid (Sl wx (.slice (some ⟨g, o, none⟩) nr cr) (fwbody tsn l)) ∧ Hid (w.grownBy wx (some gc)))
  case first =>
    go_region_with ((go_at_call 80; refine (get32_be _ _ _ tsn _ _ Hsub.out Ht.out).mono ?_; rintro z w3 ⟨rfl, hb3⟩; have hr3 := Hr2.out.drew.below hb3 Hr2.out.lt; have y3 : w3.cell? ⟨gc, 3, none⟩ = some (.int .u32 0) := (by rw [hr3.cell]; rfl); have f3 := hr3.frozen 3))
    all_goals
      go_wp2_with fail
      go_meet
      exact ⟨Lib.hid (hr3.set 3 _), Lib.hid (Sl.only (Hs2.out.drew.below hb3) (only_set (only_refl _ _) 3 _) (fun A n c e => by cases e; exact hne)), Lib.hid (only_set (only_below (only_drew Hg2.out) hb3) 3 _)⟩
  case' rest =>
    obtain ⟨HR, HS, HG⟩ := hcut
    have y2 : wc.cell? ⟨gc, 2, none⟩ = some (.slice (some ⟨g, o, none⟩) nr cr) := by rw [HR.out.cell]; rfl
    have hgcz : gc < wc.heap.size := HR.out.lt
  clear x2 Hr2 Hs2 Hsub
  go_wp2_with fail
  go_loopw [6, 7] (fun a b wr => ∃ (k m : Nat) (x : Int) (v : Value), k ≤ l.length ∧ m ≤ nr ∧ 0 ≤ x ∧ x ≤ 5000 ∧ a = .int .i64 m ∧ b = .int .i64 x ∧ Hid (m = 4 + 4 * k) ∧ Hid (x = (nr : Int) - m) ∧ Hid (Row wr gc t [.int .u8 192, .int .u8 0, .slice (some ⟨g, o, none⟩) nr cr, .int .u32 (tsn : Int), v]) ∧ Hid (wr.ownsRow wc.heap.size 135 2 v k (prs .u16 (l.take k))) ∧ Hid (wc.grownBy wr (some gc)) ∧ wc.heap.size ≤ wr.heap.size) (fun _ b _ => (intOf b).toNat)
  case atStart => exact ⟨0, 4, _, _, Nat.zero_le _, n4, by omega, by omega, rfl, rfl, Lib.hid rfl, Lib.hid (by simp), HR, Lib.hid (World.ownsRow_nil _ _ _ _), Lib.hid (only_refl _ _), Nat.le_refl _⟩
  case round =>
    obtain ⟨k, m, x, v, hk, hm, hx0, hx5, rfl, rfl, Hm, Hx, HRr, HO, HGr, hbs⟩ := hrel
    by_cases hlt : 0 < x
    · have hlk : k < l.length := by have := Hn.out; have := Hm.out; have := Hx.out; omega
      have hx : l[k]? = some l[k] := List.getElem?_eq_getElem hlk
      obtain ⟨ha, hb2, ha', hb2'⟩ := HP.out _ (List.getElem_mem hlk)
      generalize l[k] = p at hx ha hb2 ha' hb2'
      obtain ⟨p1, p2⟩ := p
      simp only at ha hb2 ha' hb2'
      have Hp := Lib.hid hx
      obtain ⟨Av, cv, hv⟩ := own_slice HO.out
      subst hv
      have hk1 : k ≤ 1000 := by have := Hl.out; omega
      have hmn : m < nr := by have := Hx.out; omega
      have hmc : ¬ cr = m := by omega
      have hmi : (m : Int) ≤ (nr : Int) := by omega
      have hS : Sl wr (.slice (some ⟨g, o, none⟩) nr cr) (fwbody tsn l) := HS.out.only HGr.out (fun A n c e => by cases e; exact hne)
      have hS2 := hS.rest m (by omega) hmc
      rw [Hm.out, fwbody_drop tsn l k _ hx, ← Hm.out] at hS2
      have HS2 := Lib.hid hS2
      have y2 : wr.cell? ⟨gc, 2, none⟩ = some (.slice (some ⟨g, o, none⟩) nr cr) := by rw [HRr.out.cell]; rfl
      have y2' : (wr.alloc (Obj.cells #[.int .u16 0, .int .u16 0] 135)).cell? ⟨gc, 2, none⟩ = some (.slice (some ⟨g, o, none⟩) nr cr) := by rw [(HRr.out.alloc _).cell]; rfl
      have hgs : ¬ gc = wr.heap.size := by omega
      have hgs' : ¬ wr.heap.size = gc := by omega
      clear hx hS hS2
      go_wp2_with fail
      have hf3 : Far (.slice (some ⟨g, o + m, none⟩) (nr - m) (cr - m)) wr.heap.size := HS2.out.far (by simp [be_length]; omega) (Nat.le_refl _)
      refine (fsunmarshal wr.heap.size _ 0 0 _ _ _ p1.toNat p2.toNat _ _ (Row.new wr _ _) (HS2.out.alloc _) hf3 (by omega) (by omega)).mono ?_
      rintro e w3 ⟨rfl, hrs, hg3⟩
      rw [Int.toNat_of_nonneg ha, Int.toNat_of_nonneg ha'] at hrs
      have hR3 := (HRr.out.alloc (.cells #[.int .u16 0, .int .u16 0] 135)).grown hg3 (by intro e; injection e with e; exact hgs e)
      have hO3 := (HO.out.alloc (.cells #[.int .u16 0, .int .u16 0] 135)).kept hg3 (.inr (fun e => by have := (HO.out.lt _ e).2; omega))
      have hG3 : wc.grownBy w3 (some gc) := only_new (only_alloc HGr.out (.cells #[.int .u16 0, .int .u16 0] 135)) hg3 hbs
      have hz3 : wr.heap.size + 1 ≤ w3.heap.size := by have := hg3.size; simpa using this
      have HR3 := Lib.hid hR3
      have HO3 := Lib.hid hO3
      have HG3 := Lib.hid hG3
      have k1 : w3.cell? ⟨wr.heap.size, 0, none⟩ = some (.int .u16 p1) := by rw [hrs.cell]; rfl
      have k2 : w3.cell? ⟨wr.heap.size, 1, none⟩ = some (.int .u16 p2) := by rw [hrs.cell]; rfl
      have k4 : w3.cell? ⟨gc, 4, none⟩ = some (.slice Av k cv) := by rw [hR3.cell]; rfl
      have m1 : (w3.alloc (Obj.cells #[.int .u16 p1, .int .u16 p2] 135)).cell? ⟨gc, 4, none⟩ = some (.slice Av k cv) := by rw [(hR3.alloc _).cell]; rfl
      clear hR3 hO3 hG3 hg3 hrs hf3 y2 y2'
      go_upto_region 14 with fail
      go_cut [] (fun wx => ∃ (A1 : Option Addr) (c1 : Nat), Hid (Row wx gc t [.int .u8 192, .int .u8 0, .slice (some ⟨g, o, none⟩) nr cr, .int .u32 (tsn : Int), .slice A1 (k + 1) c1]) ∧ Hid (wx.ownsRow wc.heap.size 135 2 (.slice A1 (k + 1) c1) (k + 1) (prs .u16 (l.take (k + 1)))) ∧ Hid (wc.grownBy wx (some gc)) ∧ wr.heap.size + 1 ≤ wx.heap.size)
      case first =>
        go_region_law ((refine step_append_rd _ rfl _ _ rfl cT wc.heap.size _ k _ rfl (HO3.out.drew.alloc _) _ 1 [_, _] rfl (Rd.lit2 _ _ _ _ (by simp)) (by simp [Value.oneCell']) (by unfold maxLen; omega) (by omega) (by simp; omega) ?_; intro v1 w5 hown5 hg5 _; obtain ⟨A1, c1, e1⟩ := own_slice hown5; subst e1; have hr5 := (HR3.out.drew.alloc (.cells #[.int .u16 p1, .int .u16 p2] 135)).grown hg5 (own_apart HO3.out hgcz).symm; have y4 : w5.cell? ⟨gc, 4, none⟩ = some (.slice Av k cv) := (by rw [hr5.cell]; rfl); have f4 := hr5.frozen 4))
        all_goals
          have hG5 : wc.grownBy w5 (some gc) := only_own (only_alloc (only_drew HG3.out) (.cells #[.int .u16 p1, .int .u16 p2] 135)) hg5 (fun j hj => (HO3.out.lt j hj).1)
          have hO6 : w5.grownBy (w5.setCell ⟨gc, 4, none⟩ (.slice A1 (k + 1) c1)) (some gc) := only_set (only_refl _ _) 4 _
          rw [← prs_take .u16 l k _ Hp.out] at hown5
          have hz6 : wr.heap.size + 1 ≤ (w5.setCell ⟨gc, 4, none⟩ (.slice A1 (k + 1) c1)).heap.size := by
            have h1 := hg5.size
            have h2 := hO6.size
            simp at h1
            omega
          go_wp2_with fail
          go_meet
          exact ⟨A1, c1, Lib.hid (hr5.set 4 _), Lib.hid (hown5.kept hO6 (.inr (own_apart hown5 hgcz))), Lib.hid (only_set hG5 4 _), hz6⟩
      case' rest =>
        obtain ⟨A1, c1, HR6, HO6, HG6, hz6⟩ := hcut
        clear k1 k2 k4 m1 HR3 HO3 HG3
      have hlt4 : 4 ≤ x := by have := Hx.out; have := Hm.out; have := Hn.out; omega
      have Hm' : Hid (m + 4 = 4 + 4 * (k + 1)) := by have := Hm.out; show m + 4 = _; omega
      have Hx' : Hid (x - 4 = (nr : Int) - ((m + 4 : Nat) : Int)) := by have := Hx.out; show x - 4 = _; omega
      have hmr : m + 4 ≤ nr := by have := Hx.out; omega
      go_wp2_with (go_at_call 83; refine (fslen_any _ _).mono ?_; rintro e w' ⟨rfl, rfl⟩)
      go_roundw
      case rel => exact ⟨k + 1, m + 4, _, _, by omega, hmr, by omega, by omega, by go_num, rfl, Hm', Hx', HR6, HO6, HG6, by omega⟩
      case measure => simp [intOf]; omega
    · have hkl : k = l.length := by have := Hn.out; have := Hm.out; have := Hx.out; omega
      subst hkl
      have hO := HO.out
      rw [List.take_length] at hO
      obtain ⟨Av, cv, hv⟩ := own_slice hO
      subst hv
      have HO2 := Lib.hid (Rd.of_own hO)
      have HG2 := Lib.hid (only_trans HG.out HGr.out)
      clear hO HO
      go_wp2
      go_ret
      exact ⟨_, Av, cv, rfl, HRr.out, HO2.out, HG2.out⟩
end Go.Proofs.YtnaihmmfnffejaaDoor
