/- The contract of chunkAbort.marshal. Conditions: the length fits 16 bits. -/
import Derived.Test.YtjbegflgbkgjpaaDoorEcz
namespace Go.Proofs.YtjbegflgbkgjpaaDoor
open Go.RowKit Go.Lib

/-- The marshal of a cause, by its type. -/
def mF (ty : Nat) : FuncId := if ty = 12 then 49 else 47
/-- What a cause's marshal hands back. -/
def RetCz (w : World) (c : Cz) (e : Ending) (w' : World) : Prop :=
  ∃ A n k, e = .returned (.tuple #[.slice A n k, .nilIface]) ∧ Sl w' (.slice A n k) (tlv c.ty c.l) ∧ (∃ m A1 n1 k1, Row w' c.g (et c.ty) [.int .u16 (c.ty : Int), .int .u16 m, .slice A1 n1 k1, c.s]) ∧ w.grownBy w' (some c.g) ∧ ∀ g, g < w.heap.size → Far (.slice A n k) g

theorem cmarshal (c : Cz) (w : World) (h : c.at w) (ht : c.ty = 12 ∨ c.ty = 13) (hl : c.l.length ≤ 65531) :
    Calls Tryd.prog (mF c.ty) #[.pointer (some ⟨c.g, 0, none⟩)] w (RetCz w c) := by
  obtain ⟨g, ty, s, l⟩ := c
  obtain ⟨x, A1, n1, c1, hr, hs⟩ := h
  simp only at hr hs ht hl ⊢
  have hs' := hs
  obtain ⟨As, ks, rfl, _⟩ := hs'
  have hf := hs.apart hr (by
    intro x hx b e
    simp only [List.mem_cons, List.not_mem_nil, or_false] at hx
    rcases hx with rfl | rfl | rfl | rfl <;> simp [bv] at e)
  rcases ht with rfl | rfl
  · refine (uamarshal g (et 12) _ _ As l.length ks l w hr hs hf hl).mono ?_
    rintro e w' ⟨A, n, k, rfl, hS, hR, hG, hN⟩
    exact ⟨A, n, k, rfl, hS, ⟨_, _, _, _, hR⟩, hG, hN⟩
  · refine (pvmarshal g (et 13) _ _ As l.length ks l w hr hs hf hl).mono ?_
    rintro e w' ⟨A, n, k, rfl, hS, hR, hG, hN⟩
    exact ⟨A, n, k, rfl, hS, ⟨_, _, _, _, hR⟩, hG, hN⟩

/-- A slice that stood before block g was made does not lie in it. -/
theorem Rd.farN {w : World} {size n : Nat} {v : Value} {xs : List Value} (h : Rd w size n v xs) {g : Nat} (hg : w.heap.size ≤ g) : 0 < n * size → Far v g := by
  intro hp A m c hv
  obtain ⟨A', c', hv', hnc, hcm, hl0, h0, hc⟩ := h
  rw [hv] at hv'
  injection hv' with e1 e2 e3
  subst e1
  obtain ⟨g', o, hA, hg'⟩ := hc hp
  injection hA with hA
  subst hA
  have hx0 : xs[0]? = some (xs[0]'(by omega)) := List.getElem?_eq_getElem (by omega)
  have := World.block_lt_of_cell? w ⟨g', o + 0, none⟩ (hg' 0 _ hx0)
  intro e
  simp only at e this
  omega

/-- What holds in the loop that writes the causes. -/
structure MInv (B gc : Nat) (t : TypeId) (L : Value) (n : Nat) (cs : List Cz) (w : World) (k : Nat) (wr : World) (va : Value) : Prop where
  row : Row wr gc t [.int .u8 6, .int .u8 0, va, L]
  own : wr.ownsRow w.heap.size 5 1 va (cflat (cs.take k)).length (bvs (cflat (cs.take k)))
  all : All cs wr
  rd : Rd wr 1 n L (cs.map Cz.v)
  bel : Below B w wr
  size : w.heap.size ≤ wr.heap.size

theorem czv_notin (cs : List Cz) (a b : Int) (k1 k2 : IntKind) (v1 v2 : Value) (h1 : ∃ A n c, v1 = .slice A n c) (h2 : ∃ A n c, v2 = .slice A n c) : ∀ x ∈ cs.map Cz.v, x ∉ [.int k1 a, .int k2 b, v1, v2] := by
  intro x hx hy
  obtain ⟨c, _, rfl⟩ := List.mem_map.1 hx
  obtain ⟨A1, n1, c1, rfl⟩ := h1
  obtain ⟨A2, n2, c2, rfl⟩ := h2
  simp [Cz.v] at hy

theorem MInv.step {B gc : Nat} {t : TypeId} {Al : Option Addr} {nl cl : Nat} {cs : List Cz} {w wr w2 w3 : World} {k : Nat} {va v3 : Value} {c : Cz}
    (h : MInv B gc t (.slice Al nl cl) nl cs w k wr va) (hc : cs[k]? = some c) (hsd : Side cs gc w.heap.size) (hBc : ∀ c ∈ cs, B ≤ c.g) (hB : B ≤ gc) (hBw : B ≤ w.heap.size) (hgc : gc < w.heap.size) (hL : 0 < nl * 1 → ∀ g, w.heap.size ≤ g → Far (.slice Al nl cl) g)
    (hg2 : wr.grownBy w2 (some c.g)) (hr2 : ∃ m A1 n1 k1, Row w2 c.g (et c.ty) [.int .u16 (c.ty : Int), .int .u16 m, .slice A1 n1 k1, c.s])
    (hown : w3.ownsRow w.heap.size 5 1 v3 ((cflat (cs.take k)).length + (tlv c.ty c.l).length) (bvs (cflat (cs.take k)) ++ bvs (tlv c.ty c.l))) (hg3 : w2.grownBy w3 va.ownBlock) :
    MInv B gc t (.slice Al nl cl) nl cs w (k + 1) (w3.setCell ⟨gc, 2, none⟩ v3) v3 := by
  have hm : c ∈ cs := List.mem_of_getElem? hc
  obtain ⟨hty, hne, hcg, hcl, hcf⟩ := hsd c hm
  have hat := h.all c hm
  have hva := own_slice h.own
  have hv3 := own_slice hown
  obtain ⟨m, A1, n1, k1, hr2⟩ := hr2
  have hcs : ∃ A n k, c.s = .slice A n k := by
    obtain ⟨_, _, _, _, _, hs⟩ := hat
    obtain ⟨A, k, e, _⟩ := hs
    exact ⟨A, _, k, e⟩
  -- behind the marshal
  have a2 : All cs w2 := h.all.marshal hat hg2 hr2
  have r2 := h.row.grown hg2 (by intro e; injection e with e; exact hne e.symm)
  have d2 : Rd w2 1 nl (.slice Al nl cl) (cs.map Cz.v) := by
    obtain ⟨x, B1, m1, d1, hr, hs⟩ := hat
    exact h.rd.only' hg2 (h.rd.apart hr (czv_notin cs _ _ _ _ _ _ ⟨_, _, _, rfl⟩ hcs))
  have b2 : Below B w w2 := h.bel.trans ⟨hg2.os, hg2.tape, hg2.output, hg2.size, fun i hi => hg2.block i (by have := h.size; omega) (by intro e; injection e with e; have := hBc c hm; omega)⟩
  have hz2 : w.heap.size ≤ w2.heap.size := Nat.le_trans h.size hg2.size
  have hown2 : wr.ownsRow w.heap.size 5 1 va (cflat (cs.take k)).length (bvs (cflat (cs.take k))) := h.own
  have hvb : ∀ j, va.ownBlock = some j → w.heap.size ≤ j := fun j hj => (hown2.lt j hj).1
  -- behind the append
  have a3 : All cs w3 := a2.own hsd hg3 hvb
  have r3 := r2.grown hg3 (own_apart hown2 hgc).symm
  have d3 : Rd w3 1 nl (.slice Al nl cl) (cs.map Cz.v) := by
    cases hv : va.ownBlock with
    | none => rw [hv] at hg3; exact d2.below ⟨hg3.os, hg3.tape, hg3.output, hg3.size, fun i hi => hg3.block i hi (by simp)⟩
    | some j => rw [hv] at hg3; exact d2.only' hg3 (fun hp => hL hp j (hvb j hv))
  have b3 : Below B w w3 := b2.grown hg3 (by omega) (fun j hj => by have := hvb j hj; omega)
  have hz3 : w.heap.size ≤ w3.heap.size := Nat.le_trans hz2 hg3.size
  -- behind the store
  have hg4 : w3.grownBy (w3.setCell ⟨gc, 2, none⟩ v3) (some gc) := only_set (only_refl _ _) 2 _
  have e : cflat (cs.take (k + 1)) = cflat (cs.take k) ++ tlv c.ty c.l := cflat_take hc
  have hown' : w3.ownsRow w.heap.size 5 1 v3 (cflat (cs.take (k + 1))).length (bvs (cflat (cs.take (k + 1)))) := by
    rw [e, bvs_append, List.length_append]; exact hown
  obtain ⟨Av, nv, kv, rfl⟩ := hva
  refine ⟨r3.set 2 _, hown'.kept hg4 (.inr (own_apart hown' hgc)), a3.chunk hsd hg4, d3.only' hg4 (d3.apart r3 (czv_notin cs _ _ _ _ _ _ ⟨_, _, _, rfl⟩ ⟨_, _, _, rfl⟩)), below_only b3 (by omega) hg4 hB, by simpa [World.setCell] using hz3⟩

set_option maxRecDepth 20000 in
theorem abmarshal (B gc : Nat) (t : TypeId) (x0 x1 : Int) (rv : Value) (Al : Option Addr) (nl cl : Nat) (cs : List Cz) (w : World) (hrv : ∃ A n c, rv = .slice A n c)
    (hr : Row w gc t [.int .u8 x0, .int .u8 x1, rv, .slice Al nl cl]) (hL : Rd w 1 nl (.slice Al nl cl) (cs.map Cz.v)) (hn : nl = cs.length) (ha : All cs w) (hsd : Side cs gc w.heap.size) (hBc : ∀ c ∈ cs, B ≤ c.g) (hB : B ≤ gc) (hBw : B ≤ w.heap.size)
    (hlen : (cflat cs).length ≤ 65531) (hnl : nl ≤ 1000) :
    Calls Tryd.prog 16 #[.pointer (some ⟨gc, 0, none⟩)] w (RetSlM B w (chunk 6 0 (cflat cs))) := by
  have k0 : w.cell? ⟨gc, 0, none⟩ = some (.int .u8 x0) := by rw [hr.cell]; rfl
  have k1 : w.cell? ⟨gc, 1, none⟩ = some (.int .u8 x1) := by rw [hr.cell]; rfl
  have k2 : w.cell? ⟨gc, 2, none⟩ = some rv := by rw [hr.cell]; rfl
  have k3 : w.cell? ⟨gc, 3, none⟩ = some (.slice Al nl cl) := by rw [hr.cell]; rfl
  have f0 := hr.frozen 0
  have f1 := hr.frozen 1
  have f2 := hr.frozen 2
  have hgc := hr.lt
  have hF : 0 < nl * 1 → ∀ g, w.heap.size ≤ g → Far (.slice Al nl cl) g := fun hp g hg => hL.farN hg hp
  have HF := Lib.hid hF
  have Hrv := Lib.hid hrv
  have Hr := Lib.hid hr
  have HL := Lib.hid hL
  have Hn := Lib.hid hn
  have Ha := Lib.hid ha
  have Hsd := Lib.hid hsd
  have HBc := Lib.hid hBc
  obtain ⟨A', c', hv, hnc, hcm, hl0, h0, hc⟩ := hL
  injection hv with e1 e2 e3
  subst e1 e3
  unfold maxLen at hcm
  clear hr hn ha hsd hBc hF hrv hc h0 hl0 e2
  go_enter Tryd.func16, Tryd.ntmps16
  go_wp2_with fail
  have hRW : Row (((w.setCell ⟨gc, 0, none⟩ (.int .u8 6)).setCell ⟨gc, 1, none⟩ (.int .u8 0)).setCell ⟨gc, 2, none⟩ (.slice (some ⟨w.heap.size, 0, none⟩) 0 0)) gc t [.int .u8 6, .int .u8 0, .slice (some ⟨w.heap.size, 0, none⟩) 0 0, .slice Al nl cl] := ((Hr.out.set 0 _).set 1 _).set 2 _
  have hGW : w.grownBy (((w.setCell ⟨gc, 0, none⟩ (.int .u8 6)).setCell ⟨gc, 1, none⟩ (.int .u8 0)).setCell ⟨gc, 2, none⟩ (.slice (some ⟨w.heap.size, 0, none⟩) 0 0)) (some gc) := only_set (only_set (only_set (only_refl _ _) 0 _) 1 _) 2 _
  have hz : (((w.setCell ⟨gc, 0, none⟩ (.int .u8 6)).setCell ⟨gc, 1, none⟩ (.int .u8 0)).setCell ⟨gc, 2, none⟩ (.slice (some ⟨w.heap.size, 0, none⟩) 0 0)).heap.size = w.heap.size := by simp [World.setCell]
  generalize ((w.setCell ⟨gc, 0, none⟩ (.int .u8 6)).setCell ⟨gc, 1, none⟩ (.int .u8 0)).setCell ⟨gc, 2, none⟩ (.slice (some ⟨w.heap.size, 0, none⟩) 0 0) = W at hRW hGW hz ⊢
  have hI : MInv B gc t (.slice Al nl cl) nl cs w 0 (W.alloc (.cells #[] 5)) (.slice (some ⟨w.heap.size, 0, none⟩) 0 0) := by
    refine ⟨hRW.alloc _, ?_, (Ha.out.chunk Hsd.out hGW).below ((Below.refl _ _).alloc (Nat.le_refl _) _), (HL.out.only' hGW (HL.out.apart Hr.out (czv_notin cs _ _ _ _ _ _ ?_ ⟨_, _, _, rfl⟩))).alloc _, ((Below.refl B w).trans ⟨hGW.os, hGW.tape, hGW.output, hGW.size, fun i hi => hGW.block i (by omega) (by intro e; injection e with e; omega)⟩).alloc (by omega) _, by simp; omega⟩
    · have h := World.ownsRow_made (e := 5) (size := 1) W #[] 0 (Nat.le_refl _) (Nat.zero_le _) rfl
      rw [hz] at h
      exact h
    · exact Hrv.out
  have HI := Lib.hid hI
  clear hRW hGW hI k0 k1 k2 k3 f0 f1 f2 hz
  go_loopw [26] (fun i wr => ∃ (k : Nat) (va : Value), k ≤ nl ∧ i = .int .i64 k ∧ Hid (MInv B gc t (.slice Al nl cl) nl cs w k wr va)) (fun i _ => nl - (intOf i).toNat)
  case atStart => exact ⟨0, _, Nat.zero_le _, rfl, HI⟩
  case round =>
    obtain ⟨k, va, hk, rfl, HM⟩ := hrel
    by_cases hlt : k < nl
    · have hx : cs[k]? = some (cs[k]'(by have := Hn.out; omega)) := List.getElem?_eq_getElem _
      generalize cs[k]'(by have := Hn.out; omega) = c at hx
      have hm := List.mem_of_getElem? hx
      obtain ⟨hty, hne, hcg, hcl, hcf⟩ := Hsd.out c hm
      obtain ⟨A', c', hv, hnc', hcm', hl0, h0, hc⟩ := HM.out.rd
      injection hv with e1 e2 e3
      subst e1 e3
      obtain ⟨g, o, rfl, hg⟩ := hc (by omega)
      have hcell : wr.cell? ⟨g, o + k, none⟩ = some (.iface (eT c.ty) (.pointer (some ⟨c.g, 0, none⟩))) := hg k _ (by simp [hx, Cz.v])
      have hmeth : ∀ (a : Addr) (w : World), (method 204 (eT c.ty) (.pointer (some a)) "loop.example/pub-g03037/pub/sctp.marshal").run Tryd.prog w = .ok (mF c.ty, .pointer (some a)) w := by
        rcases hty with e | e <;> rw [e] <;> intro a w
        · exact (show (method 204 (eT 12) (.pointer (some a)) "loop.example/pub-g03037/pub/sctp.marshal").run Tryd.prog w = .ok (mF 12, .pointer (some a)) w by kernel_rfl)
        · exact (show (method 204 (eT 13) (.pointer (some a)) "loop.example/pub-g03037/pub/sctp.marshal").run Tryd.prog w = .ok (mF 13, .pointer (some a)) w by kernel_rfl)
      have henter : ∀ (v : Value) (w : World), (callFunc (mF c.ty) #[v]).run Tryd.prog w = .ok (.enter (mF c.ty) #[v]) w := by
        rcases hty with e | e <;> rw [e] <;> intro v w
        · exact (show (callFunc (mF 12) #[v]).run Tryd.prog w = .ok (.enter (mF 12) #[v]) w by kernel_rfl)
        · exact (show (callFunc (mF 13) #[v]).run Tryd.prog w = .ok (.enter (mF 13) #[v]) w by kernel_rfl)
      have HX := Lib.hid hx
      have Hcal := Lib.hid (cmarshal c wr (HM.out.all c hm) hty hcl)
      have Hgt := Lib.hid hcg
      generalize eT c.ty = T at hcell hmeth
      generalize mF c.ty = F at hmeth Hcal henter
      generalize hcg' : c.g = G at hcell Hcal
      have HG' := Lib.hid hcg'
      clear hcg' hx hm hc hg h0 hl0 e2 hcf hne hcg hcl hty
      go_wp2_with fail
      refine Hcal.out.mono ?_
      rintro e w2 ⟨A2, n2, c2, rfl, hS2, hR2, hG2, _⟩
      have hG2' := hG2
      rw [HG'.out] at hG2'
      have hgne : ¬ gc = G := by
        intro e
        exact (Hsd.out c (List.mem_of_getElem? HX.out)).2.1 (HG'.out.trans e.symm)
      have hr2 := HM.out.row.grown hG2' (by intro e; injection e with e; exact hgne e)
      have y2 : w2.cell? ⟨gc, 2, none⟩ = some va := by rw [hr2.cell]; rfl
      have hGb : ¬ G ≥ w.heap.size := by have := Hgt.out; rw [HG'.out] at this; omega
      have hown2 := HM.out.own.kept hG2' (.inr (fun e => hGb (HM.out.own.lt _ e).1))
      have hz2 : w.heap.size ≤ w2.heap.size := Nat.le_trans HM.out.size hG2'.size
      have hle := cflat_le HX.out
      have hlS := hS2.len
      rw [tlv_length] at hlS
      have HS2 := Lib.hid hS2
      have HR2 := Lib.hid hR2
      have HG2 := Lib.hid hG2
      have Hr2 := Lib.hid hr2
      have Hown2 := Lib.hid hown2
      have Hle := Lib.hid hle
      have HlS := Lib.hid hlS
      clear hG2' hr2 hown2 hle hlS hS2 hR2 hG2 hcell hmeth henter Hcal hgne hGb
      go_wp2_with (at_builtin; refine wpList_append_rd _ rfl _ _ rfl bT w.heap.size va _ _ rfl Hown2.out (.slice A2 n2 c2) (tlv c.ty c.l).length (bvs (tlv c.ty c.l)) rfl HS2.out (bvs_one _) ?c1 ?c2 hz2 ?_)
      case c1 => have := Hle.out; rw [tlv_length]; unfold maxLen; omega
      case c2 => have := Hle.out; rw [tlv_length]; omega
      intro v3 w3 hown3 hg3 _
      obtain ⟨A3, c3, e3⟩ := own_slice hown3
      have hr3 := Hr2.out.grown hg3 (own_apart Hown2.out hgc).symm
      have y3 : w3.cell? ⟨gc, 2, none⟩ = some va := by rw [hr3.cell]; rfl
      have f3 := hr3.frozen 2
      have HM4 := Lib.hid (HM.out.step HX.out Hsd.out HBc.out hB hBw hgc HF.out HG2.out HR2.out hown3 hg3)
      subst e3
      clear hown3 hg3 hr3 Hown2 Hr2 HR2 HG2 HS2 y2
      generalize (cflat (List.take k cs)).length + (tlv c.ty c.l).length = m3 at HM4 ⊢
      go_wp2
      go_roundw
      case rel => exact ⟨k + 1, _, by omega, by go_num, HM4⟩
      case measure => simp [intOf]; omega
    · obtain rfl : k = nl := by omega
      have hO := HM.out.own
      rw [show cs.take k = cs by rw [Hn.out, List.take_length]] at hO
      have hR := HM.out.row
      have HB := Lib.hid HM.out.bel
      have Hz := HM.out.size
      obtain ⟨Av, cv, hv⟩ := own_slice hO
      subst hv
      have HO2 := Lib.hid (Rd.of_own hO)
      have HRR := Lib.hid hR
      clear hO hR
      go_wp2_with fail
      refine (hmarshal_any gc t 6 0 _ [_] (cflat cs) wr HRR.out HO2.out hlen).mono ?_
      rintro e w7 ⟨A7, n7, c7, rfl, hs7, hb7⟩
      have Hs7 := Lib.hid hs7
      have Hb7 := Lib.hid (below_step HB.out (by omega) hb7)
      clear hs7 hb7
      go_wp2
      go_ret2
      exact ⟨A7, n7, c7, rfl, by rw [chunk_rev]; exact Hs7.out, Hb7.out⟩
end Go.Proofs.YtjbegflgbkgjpaaDoor
