/- A list of causes that grows in a chunk; the contract of ZZAbortText. Conditions: types 12 or 13, bounds on lengths. -/
import Derived.Test.YtjbegflgbkgjpaaDoorEcm
import Derived.Test.YtjbegflgbkgjpaaDoorPms
namespace Go.Proofs.YtjbegflgbkgjpaaDoor
open Go.RowKit Go.Lib

theorem ecT : ElT Tryd.prog 47 59 .nilIface 1 16 := ⟨Tryd.underlying47, by kernel_rfl, rfl, by decide⟩

/-- Where a cause lies: in a new block, apart from the chunk's block gc and from the list's own block; so does what it says. -/
def Lies (c : Cz) (gc U : Nat) (va : Value) (m : Nat) : Prop :=
  (c.ty = 12 ∨ c.ty = 13) ∧ c.g ≠ gc ∧ U ≤ c.g ∧ c.g < m ∧ c.l.length ≤ 65531 ∧ (0 < c.l.length → Far c.s gc) ∧ ∀ j, va.ownBlock = some j → c.g ≠ j ∧ (0 < c.l.length → Far c.s j)

/-- What holds while a chunk's list of causes grows: the list's cells are the call's own, from block U on. -/
structure BInv (U gc : Nat) (t : TypeId) (hd : List Value) (cs : List Cz) (w wr : World) (va : Value) : Prop where
  row : Row wr gc t (hd ++ [va])
  own : wr.ownsRow U 59 1 va cs.length (cs.map Cz.v)
  all : All cs wr
  lies : ∀ c ∈ cs, Lies c gc U va wr.heap.size
  bel : w.grownBy wr (some gc)
  size : U ≤ wr.heap.size
  gU : gc < U

theorem Cz.at.only0 {c : Cz} {w w' : World} {r : Option Nat} (h : c.at w) (hg : w.grownBy w' r) (hr : ∀ j, r = some j → c.g ≠ j ∧ (0 < c.l.length → Far c.s j)) : c.at w' := by
  cases r with
  | none => exact h.below ⟨hg.os, hg.tape, hg.output, hg.size, fun i hi => hg.block i hi (by simp)⟩
  | some j => exact h.only hg (hr j rfl).1 (hr j rfl).2
theorem Cz.at.lt {c : Cz} {w : World} (h : c.at w) : c.g < w.heap.size := by
  obtain ⟨x, A1, n1, c1, hr, hs⟩ := h
  exact hr.lt
theorem Cz.at.farN {c : Cz} {w : World} (h : c.at w) {g : Nat} (hg : w.heap.size ≤ g) : 0 < c.l.length → Far c.s g := by
  obtain ⟨x, A1, n1, c1, hr, hs⟩ := h
  exact fun hp => Rd.farN hs hg (by omega)

theorem BInv.step {U gc : Nat} {t : TypeId} {hd : List Value} {cs : List Cz} {w wr w3 w5 : World} {va v5 : Value} {c : Cz} {o : Obj} {i : Nat} (h : BInv U gc t hd cs w wr va) (hi : i = hd.length)
    (hb : Below wr.heap.size wr w3) (hc : c.at w3) (hg : wr.heap.size ≤ c.g) (hty : c.ty = 12 ∨ c.ty = 13) (hl : c.l.length ≤ 65531) (hf : 0 < c.l.length → Far c.s gc ∧ ∀ j, va.ownBlock = some j → Far c.s j) (hw : w.heap.size ≤ U)
    (hown : w5.ownsRow U 59 1 v5 (cs.length + 1) (cs.map Cz.v ++ [c.v])) (hg5 : (w3.alloc o).grownBy w5 va.ownBlock) (hv : v5.ownBlock = va.ownBlock ∨ v5.ownBlock = some (w3.alloc o).heap.size) :
    BInv U gc t hd (cs ++ [c]) w (w5.setCell ⟨gc, i, none⟩ v5) v5 := by
  have hgU := h.gU
  have hUz := h.size
  have hb4 : Below wr.heap.size wr (w3.alloc o) := hb.alloc hb.size o
  have hz4 := hb4.size
  have hz5 := hg5.size
  have hva : ∀ j, va.ownBlock = some j → U ≤ j ∧ j < wr.heap.size := fun j hj => h.own.lt j hj
  have hc4 : c.at (w3.alloc o) := hc.below ((Below.refl _ _).alloc (Nat.le_refl _) o)
  -- where all the causes lie, of the elder list
  have hL4 : ∀ d ∈ cs ++ [c], Lies d gc U va (w3.alloc o).heap.size := by
    intro d hd'
    rcases List.mem_append.1 hd' with hd' | hd'
    · obtain ⟨a1, a2, a3, a4, a5, a6, a7⟩ := h.lies d hd'
      exact ⟨a1, a2, a3, by omega, a5, a6, a7⟩
    · obtain rfl := List.mem_singleton.1 hd'
      have := hc4.lt
      exact ⟨hty, by omega, by omega, by omega, hl, fun hp => (hf hp).1, fun j hj => ⟨by have := hva j hj; omega, fun hp => (hf hp).2 j hj⟩⟩
  have hA4 : All (cs ++ [c]) (w3.alloc o) := by
    intro d hd'
    rcases List.mem_append.1 hd' with hd' | hd'
    · exact (h.all d hd').below hb4
    · obtain rfl := List.mem_singleton.1 hd'
      exact hc4
  have hA5 : All (cs ++ [c]) w5 := fun d hd' => (hA4 d hd').only0 hg5 (hL4 d hd').2.2.2.2.2.2
  have hr5 : Row w5 gc t (hd ++ [va]) := (h.row.below hb4 (by omega)).grown hg5 (by intro e; have := hva gc e.symm; omega)
  have hL5 : ∀ d ∈ cs ++ [c], Lies d gc U v5 w5.heap.size := by
    intro d hd'
    obtain ⟨a1, a2, a3, a4, a5, a6, a7⟩ := hL4 d hd'
    refine ⟨a1, a2, a3, by omega, a5, a6, fun j hj => ?_⟩
    rcases hv with e | e
    · exact a7 j (by rw [← e]; exact hj)
    · rw [e] at hj
      injection hj with hj
      exact ⟨by omega, fun hp => (hA4 d hd').farN (by omega) hp⟩
  have hg6 : w5.grownBy (w5.setCell ⟨gc, i, none⟩ v5) (some gc) := only_set (only_refl _ _) i _
  have hz6 : (w5.setCell ⟨gc, i, none⟩ v5).heap.size = w5.heap.size := by simp [World.setCell]
  have hv5 : v5.ownBlock ≠ some gc := own_apart hown hgU
  refine ⟨?_, ?_, fun d hd' => (hA5 d hd').only0 hg6 (fun j hj => ?_), fun d hd' => ?_, ?_, by omega, hgU⟩
  · have h6 := hr5.set i v5
    have e : (hd ++ [va]).set i v5 = hd ++ [v5] := by
      subst hi
      simp
    rw [e] at h6
    exact h6
  · have h6 := hown.kept hg6 (.inr hv5)
    simpa using h6
  · injection hj with hj
    subst hj
    obtain ⟨a1, a2, a3, a4, a5, a6, a7⟩ := hL5 d hd'
    exact ⟨a2, a6⟩
  · rw [hz6]
    exact hL5 d hd'
  · refine only_trans (only_own (only_trans h.bel (grown_of_below hb4 _)) hg5 (fun j hj => ?_)) hg6
    have := hva j hj
    omega

/-- The list that has grown, as a marshal wants it. -/
theorem BInv.side {U gc : Nat} {t : TypeId} {hd : List Value} {cs : List Cz} {w wr : World} {va : Value} (h : BInv U gc t hd cs w wr va) : Side cs gc wr.heap.size := by
  intro c hc
  obtain ⟨a1, a2, a3, a4, a5, a6, a7⟩ := h.lies c hc
  exact ⟨a1, a2, a4, a5, fun hp => ⟨a6 hp, fun g hg => (h.all c hc).farN hg hp⟩⟩

/-- A cause is built of its bytes. -/
theorem build_any (ty : Nat) (A : Option Addr) (n c : Nat) (l r : List UInt8) (w : World) (ht : ty = 12 ∨ ty = 13) (hs : Sl w (.slice A n c) (tlv ty l ++ r)) (hl : l.length ≤ 65531) :
    Calls Tryd.prog 15 #[.slice A n c] w (RetEc w (eT ty) (et ty) ty (.slice A n c) l) := by
  rcases ht with rfl | rfl
  · exact build_ua A n c l r w hs hl
  · exact build_pv A n c l r w hs hl

/-- The causes' bytes, of plain data. -/
def pflat (cs : List (Int × List UInt8)) : List UInt8 := (cs.map fun c => tlv c.1.toNat c.2).flatten
def Cz.c (c : Cz) : Int × List UInt8 := ((c.ty : Int), c.l)
theorem cflat_pflat (cs : List Cz) : cflat cs = pflat (cs.map Cz.c) := by
  unfold cflat pflat
  rw [List.map_map]
  congr 1

set_option maxRecDepth 20000 in
set_option maxHeartbeats 1600000 in
theorem zzabtext_any (A : Option Addr) (n c : Nat) (ps : List Pm) (w : World) (h : Rd w 2 n (.slice A n c) (pms .u16 ps)) (hn : n = ps.length) (ha : PAll ps w) (hr : ∀ p ∈ ps, (p.ty = 12 ∨ p.ty = 13) ∧ p.l.length ≤ 65531) (hl : n ≤ 1000) (hf : (pflat (ps.map Pm.c)).length ≤ 65531) :
    Calls Tryd.prog 9 #[.slice A n c] w (RetSlE w (chunk 6 0 (pflat (ps.map Pm.c)))) := by
  have Hn := Lib.hid hn
  have HA := Lib.hid ha
  have HR := Lib.hid hr
  have Hf := Lib.hid hf
  obtain ⟨A', c', hv, hnc, hcm, hl0, h0, hc⟩ := h
  injection hv with e1 e2 e3
  subst e1 e3
  have HC := Lib.hid hc
  clear hn ha hr hf hl0 h0 hc e2
  unfold maxLen at hcm
  go_enter Tryd.func9, Tryd.ntmps9
  go_wp2_with fail
  go_loopw [14] (fun i wr => ∃ (k : Nat) (cs : List Cz) (va : Value), k ≤ n ∧ i = .int .i64 k ∧ Hid (cs.map Cz.c = (ps.map Pm.c).take k) ∧ Hid (cs.length = k) ∧ Hid (BInv (w.heap.size + 1) w.heap.size 49 [.int .u8 0, .int .u8 0, .slice none 0 0] cs (w.alloc (.cells #[.int .u8 0, .int .u8 0, .slice none 0 0, .slice none 0 0] 49)) wr va)) (fun i _ => n - (intOf i).toNat)
  case atStart => exact ⟨0, [], .slice none 0 0, Nat.zero_le _, rfl, Lib.hid rfl, Lib.hid rfl, Lib.hid ⟨Row.new' _ _ _ rfl, World.ownsRow_nil _ _ _ _, fun _ h => by simp at h, fun _ h => by simp at h, only_refl _ _, by simp, by omega⟩⟩
  case round =>
    obtain ⟨k, cs, va, hk, rfl, Hcs, Hlen, HI⟩ := hrel
    have hz0 := HI.out.size
    by_cases hlt : k < n
    · obtain ⟨g, o, rfl, hg⟩ := HC.out (by omega)
      have hlk : k < ps.length := by have := Hn.out; omega
      have hx : ps[k]? = some ps[k] := List.getElem?_eq_getElem hlk
      obtain ⟨hty, hlen⟩ := HR.out _ (List.getElem_mem hlk)
      have hs := HA.out _ (List.getElem_mem hlk)
      generalize ps[k] = x at hx hty hlen hs
      have Hw := Lib.hid (show Below w.heap.size w wr from ((Below.refl w.heap.size w).alloc (Nat.le_refl _) _).trans ⟨HI.out.bel.os, HI.out.bel.tape, HI.out.bel.output, HI.out.bel.size, fun i hi => HI.out.bel.block i (by simp; omega) (by intro e; injection e with e; omega)⟩)
      obtain ⟨hc1, hc2⟩ := pm_cells hg Hw.out hx
      have hsr := hs.below Hw.out
      have Hx := Lib.hid (show (ps.map Pm.c)[k]? = some x.c by simp [hx])
      obtain ⟨tx, sx, lx⟩ := x
      simp only at hty hc1 hc2 hlen hs hsr
      obtain ⟨ty, rfl⟩ : ∃ ty : Nat, tx = (ty : Int) := ⟨tx.toNat, by rcases hty with e | e <;> rw [e] <;> rfl⟩
      have hty' : ty = 12 ∨ ty = 13 := by omega
      have hs' := hsr
      obtain ⟨As, csx, rfl, _⟩ := hs'
      obtain ⟨nx, hnx⟩ : ∃ nx, nx = lx.length := ⟨_, rfl⟩
      rw [← hnx] at hc2 hsr
      have Hnx := Lib.hid hnx
      have Hsr := Lib.hid hsr
      clear hx hg hs hsr hty hnx
      go_wp2_with fail
      have hN1 : Below wr.heap.size wr ((wr.alloc (.cells #[.int .u16 (ty : Int), .slice As nx csx] 52)).alloc (.cells #[.int .u16 (ty : Int), .int .u16 0, .slice As nx csx] 56)) := ((Below.refl _ _).alloc (Nat.le_refl _) _).alloc (by simp) _
      have hR1 := Row.new' (g := wr.heap.size + 1) (wr.alloc (.cells #[.int .u16 (ty : Int), .slice As nx csx] 52)) 56 #[.int .u16 (ty : Int), .int .u16 0, .slice As nx csx] (by simp)
      have hz1 : ((wr.alloc (.cells #[.int .u16 (ty : Int), .slice As nx csx] 52)).alloc (.cells #[.int .u16 (ty : Int), .int .u16 0, .slice As nx csx] 56)).heap.size = wr.heap.size + 2 := by simp
      generalize ((wr.alloc (.cells #[.int .u16 (ty : Int), .slice As nx csx] 52)).alloc (.cells #[.int .u16 (ty : Int), .int .u16 0, .slice As nx csx] 56)) = W at hN1 hR1 hz1 ⊢
      have hS1 : Sl W (.slice As nx csx) lx := Hsr.out.below hN1
      refine (echmarshal (wr.heap.size + 1) _ ty _ As nx csx [] lx W hR1 hS1 (fun hp => Rd.farN Hsr.out (by omega) (by omega)) hlen (by omega)).mono ?_
      rintro e w2 ⟨A2, n2, c2, rfl, hS2, hR2, hG2, hF2⟩
      have hN2 : Below wr.heap.size wr w2 := below_only hN1 (by omega) hG2 (by omega)
      have HS2 := Lib.hid hS2
      have HF2 : Hid (∀ g, g < wr.heap.size → Far (.slice A2 n2 c2) g) := Lib.hid (fun g hg => hF2 g (by omega))
      have HN2 := Lib.hid hN2
      clear hR1 hS1 hN1 hR2 hG2 hS2 hN2 hF2 hz1 hc1 hc2
      go_wp2_with fail
      refine (build_any ty A2 n2 c2 lx [] w2 hty' (by rw [List.append_nil]; exact HS2.out) hlen).mono ?_
      rintro e w3 ⟨g3, A3, n3, c3, rfl, hR3, hS3, hF3, hg3, hB3⟩
      have hN3 : Below wr.heap.size wr w3 := HN2.out.trans (hB3.mono HN2.out.size)
      have hg3' : wr.heap.size ≤ g3 := Nat.le_trans HN2.out.size hg3
      have HR3 := Lib.hid hR3
      have HS3 := Lib.hid hS3
      have HF3 := Lib.hid (fun g hg => hF3 g (HF2.out g hg))
      have HN3 := Lib.hid hN3
      have hr3 := HI.out.row.below hN3 (by omega)
      have y3 : w3.cell? ⟨w.heap.size, 3, none⟩ = some va := by rw [hr3.cell]; rfl
      have y3' : (w3.alloc (.cells #[.iface (eT ty) (.pointer (some ⟨g3, 0, none⟩))] 59)).cell? ⟨w.heap.size, 3, none⟩ = some va := by rw [(hr3.alloc _).cell]; rfl
      have hO3 := own_below HI.out.own hN3
      rw [Hlen.out] at hO3
      have HO3 := Lib.hid hO3
      have Hr3 := Lib.hid hr3
      have hU3 : w.heap.size + 1 ≤ w3.heap.size := Nat.le_trans hz0 hN3.size
      clear hR3 hS3 hF3 hN3 hB3 hr3 hO3 hg3
      generalize hT : eT ty = T at y3' ⊢
      have HT := Lib.hid hT
      clear hT
      go_wp2_with (at_builtin; refine wpList_append_rd _ rfl _ _ rfl ecT (w.heap.size + 1) va k _ rfl (HO3.out.alloc _) _ 1 [_] rfl (Rd.lit w3 59 [.iface T (.pointer (some ⟨g3, 0, none⟩))] 1 rfl (by omega)) ?c1 ?c2 ?c3 ?c4 ?_)
      case c1 => simp [Value.oneCell']
      case c2 => unfold maxLen; omega
      case c3 => omega
      case c4 => simp; omega
      intro v5 w5 hown5 hg5 hat5
      obtain ⟨A5, c5, e5⟩ := own_slice hown5
      subst e5
      have hr5 := (Hr3.out.alloc (.cells #[.iface T (.pointer (some ⟨g3, 0, none⟩))] 59)).grown hg5 (fun e => by have := (HI.out.own.lt _ e.symm).1; omega)
      have y5 : w5.cell? ⟨w.heap.size, 3, none⟩ = some va := by rw [hr5.cell]; rfl
      have f5 := hr5.frozen 3
      have hI5 := HI.out.step (c := ⟨g3, ty, .slice A3 n3 c3, lx⟩) (i := 3) (v5 := .slice A5 (k + 1) c5) (o := .cells #[.iface T (.pointer (some ⟨g3, 0, none⟩))] 59) rfl HN3.out ⟨_, _, _, _, HR3.out, HS3.out⟩ hg3' hty' hlen (fun hp => ⟨HF3.out _ (by omega), fun j hj => HF3.out _ (HI.out.own.lt j hj).2⟩) (by simp) (by rw [Hlen.out]; unfold Cz.v; rw [HT.out]; exact hown5) hg5 (by simpa using hat5)
      have HI5 := Lib.hid hI5
      have Hcs5 : Hid ((cs ++ [(⟨g3, ty, .slice A3 n3 c3, lx⟩ : Cz)]).map Cz.c = (ps.map Pm.c).take (k + 1)) := Lib.hid (by rw [List.map_append, Hcs.out, List.take_add_one, Hx.out]; rfl)
      have Hlen5 : Hid ((cs ++ [(⟨g3, ty, .slice A3 n3 c3, lx⟩ : Cz)]).length = k + 1) := Lib.hid (by simp [Hlen.out])
      clear hI5 hown5 hg5 hat5 hr5 y3 y3'
      go_wp2
      go_roundw
      case rel => exact ⟨k + 1, _, _, by omega, by go_num, Hcs5, Hlen5, HI5⟩
      case measure => simp [intOf]; omega
    · obtain rfl : k = n := by omega
      have hcs := Hcs.out
      rw [List.take_of_length_le (by simp; have := Hn.out; omega)] at hcs
      have hlen := Hlen.out
      have hO := HI.out.own
      obtain ⟨Av, cv, hv⟩ := own_slice hO
      subst hv
      rw [hlen] at hO
      have hcf : cflat cs = pflat (ps.map Pm.c) := by rw [cflat_pflat, hcs]
      have HR2 := Lib.hid HI.out.row
      have HO2 := Lib.hid (Rd.of_own hO)
      have Hcf := Lib.hid hcf
      have HS := Lib.hid HI.out.side
      have Hlie := Lib.hid (fun c hc => (HI.out.lies c hc).2.2.1)
      have hgs := HI.out.row.lt
      clear hcs hO hcf
      subst hlen
      go_wp2_with fail
      refine (abmarshal w.heap.size w.heap.size _ 0 0 _ Av _ cv cs wr ⟨_, _, _, rfl⟩ HR2.out HO2.out rfl HI.out.all HS.out (fun c hc => by have := Hlie.out c hc; omega) (Nat.le_refl _) (by omega) (by rw [Hcf.out]; exact Hf.out) hl).mono ?_
      rintro e w7 ⟨A7, n7, c7, rfl, hs7, hb7⟩
      rw [Hcf.out] at hs7
      have Hs7 := Lib.hid hs7
      have Hb7 := Lib.hid ((show Below w.heap.size w wr from ((Below.refl w.heap.size w).alloc (Nat.le_refl _) _).trans ⟨HI.out.bel.os, HI.out.bel.tape, HI.out.bel.output, HI.out.bel.size, fun i hi => HI.out.bel.block i (by simp; omega) (by intro e; injection e with e; omega)⟩).trans hb7)
      clear hs7 hb7
      go_wp2
      go_ret2
      exact ⟨A7, n7, c7, rfl, Hs7.out, Hb7.out⟩
end Go.Proofs.YtjbegflgbkgjpaaDoor
