/- The contract of ZZAbortOf. Conditions: types 12 or 13, bounds on lengths. -/
import Derived.Test.YtjbegflgbkgjpaaDoorAbu
namespace Go.Proofs.YtjbegflgbkgjpaaDoor
open Go.RowKit Go.Lib

/-- What holds while a list of parameters grows, its cells the call's own from block B on. -/
structure PInv0 (E : TypeId) (K : IntKind) (B : Nat) (cs : List (Int × List UInt8)) (k : Nat) (qs : List Pm) (v : Value) (wr : World) : Prop where
  con : qs.map Pm.c = cs.take k
  len : qs.length = k
  own : wr.ownsRow B E 2 v k (pms K qs)
  all : PAll qs wr
  far : ∀ p ∈ qs, 0 < p.l.length → ∀ j, v.ownBlock = some j → Far p.s j
  size : B ≤ wr.heap.size

theorem PInv0.start (E : TypeId) (K : IntKind) (w : World) (cs : List (Int × List UInt8)) {B : Nat} (h : B ≤ w.heap.size) : PInv0 E K B cs 0 [] (.slice none 0 0) w :=
  ⟨rfl, rfl, World.ownsRow_nil _ _ _ _, fun _ h => by simp at h, fun _ h => by simp at h, h⟩

theorem PInv0.step {E : TypeId} {K : IntKind} {B : Nat} {cs : List (Int × List UInt8)} {k : Nat} {qs : List Pm} {v v5 : Value} {w1 w5 : World} {ty : Int} {l : List UInt8} {s : Value} {o : Obj} (h : PInv0 E K B cs k qs v w1)
    (hx : cs[k]? = some (ty, l)) (hs : Sl w1 s l) (hn : 0 < l.length → ∀ j, v.ownBlock = some j → Far s j)
    (hown : w5.ownsRow B E 2 v5 (k + 1) (pms K qs ++ [.int K ty, s])) (hg : (w1.alloc o).grownBy w5 v.ownBlock) (hv : v5.ownBlock = v.ownBlock ∨ v5.ownBlock = some (w1.alloc o).heap.size) :
    PInv0 E K B cs (k + 1) (qs ++ [⟨ty, s, l⟩]) v5 w5 := by
  have hfar : ∀ p ∈ qs ++ [(⟨ty, s, l⟩ : Pm)], 0 < p.l.length → ∀ j, v.ownBlock = some j → Far p.s j := by
    intro p hp hl j hj
    rcases List.mem_append.1 hp with hp | hp
    · exact h.far p hp hl j hj
    · obtain rfl := List.mem_singleton.1 hp
      exact hn hl j hj
  have hall : PAll (qs ++ [(⟨ty, s, l⟩ : Pm)]) (w1.alloc o) := by
    intro p hp
    rcases List.mem_append.1 hp with hp | hp
    · exact (h.all p hp).alloc o
    · obtain rfl := List.mem_singleton.1 hp
      exact hs.alloc o
  refine ⟨?_, by simp [h.len], by rw [pms_snoc]; exact hown, fun p hp => ?_, fun p hp hl j hj => ?_, ?_⟩
  · rw [List.take_add_one, hx, List.map_append, h.con]
    rfl
  · cases hv' : v.ownBlock with
    | none => rw [hv'] at hg; exact (hall p hp).below ⟨hg.os, hg.tape, hg.output, hg.size, fun i hi => hg.block i hi (by simp)⟩
    | some j => rw [hv'] at hg; exact (hall p hp).only' hg (fun hl => hfar p hp hl j hv')
  · rcases hv with e | e
    · exact hfar p hp hl j (by rw [← e]; exact hj)
    · rw [e] at hj
      injection hj with hj
      exact Rd.farN (hall p hp) (by omega) (by omega)
  · have h1 := hg.size
    have h2 := h.size
    simp only [World.size_alloc] at h1
    omega

/-- A block below B, with no byte in it, has changed. -/
theorem PInv0.only {E : TypeId} {K : IntKind} {B : Nat} {cs : List (Int × List UInt8)} {k : Nat} {qs : List Pm} {v : Value} {wr w1 : World} {g : Nat} {t : TypeId} {xs : List Value} (h : PInv0 E K B cs k qs v wr) (hg : wr.grownBy w1 (some g)) (hB : g < B) (hr : Row wr g t xs) (hx : ∀ x ∈ xs, ∀ b, x ≠ bv b) : PInv0 E K B cs k qs v w1 :=
  ⟨h.con, h.len, h.own.kept hg (.inr (own_apart h.own hB)), fun p hp => (h.all p hp).only' hg ((h.all p hp).apart hr hx), h.far, Nat.le_trans h.size hg.size⟩

/-- What holds in the loop of ZZAbortOf. -/
structure OInv (w w2 : World) (L : Value) (n : Nat) (cs : List Cz) (k : Nat) (qs : List Pm) (v : Value) (wr : World) : Prop where
  p : PInv0 52 .u16 w2.heap.size (cs.map Cz.c) k qs v wr
  all : All cs wr
  rd : Rd wr 1 n L (cs.map Cz.v)
  bel : Below w.heap.size w wr

theorem cz_nobyte (a : Int) (x : Int) (v1 v2 : Value) (h1 : ∃ A n c, v1 = .slice A n c) (h2 : ∃ A n c, v2 = .slice A n c) : ∀ y ∈ [Value.int .u16 a, .int .u16 x, v1, v2], ∀ b, y ≠ bv b := by
  intro y hy b e
  obtain ⟨A1, n1, c1, rfl⟩ := h1
  obtain ⟨A2, n2, c2, rfl⟩ := h2
  simp only [List.mem_cons, List.not_mem_nil, or_false] at hy
  rcases hy with rfl | rfl | rfl | rfl <;> simp [bv] at e

theorem Cz.at.slice {c : Cz} {w : World} (h : c.at w) : ∃ A n k, c.s = .slice A n k := by
  obtain ⟨_, _, _, _, _, hs⟩ := h
  obtain ⟨A, k, e, _⟩ := hs
  exact ⟨A, _, k, e⟩

/-- A cause's marshal has run. -/
theorem OInv.marshal {w w2 : World} {L : Value} {n : Nat} {cs : List Cz} {k : Nat} {qs : List Pm} {v : Value} {wr w3 : World} {c : Cz} (h : OInv w w2 L n cs k qs v wr) (hc : c ∈ cs) (hl : w.heap.size ≤ c.g ∧ c.g < w2.heap.size)
    (hg : wr.grownBy w3 (some c.g)) (hr : ∃ m A1 n1 k1, Row w3 c.g (et c.ty) [.int .u16 (c.ty : Int), .int .u16 m, .slice A1 n1 k1, c.s]) (hz : w.heap.size ≤ w2.heap.size) : OInv w w2 L n cs k qs v w3 := by
  have hat := h.all c hc
  obtain ⟨m, A1, n1, k1, hr⟩ := hr
  have hsl := hat.slice
  have hat' := hat
  obtain ⟨x, B1, m1, d1, hrow, hs⟩ := hat'
  have hsz := h.p.size
  exact ⟨h.p.only hg hl.2 hrow (cz_nobyte _ _ _ _ ⟨_, _, _, rfl⟩ hsl), h.all.marshal hat hg hr, h.rd.only' hg (h.rd.apart hrow (czv_notin cs _ _ _ _ _ _ ⟨_, _, _, rfl⟩ hsl)),
    below_only h.bel (by omega) hg hl.1⟩

/-- An append has run. -/
theorem OInv.append {w w2 : World} {L : Value} {n : Nat} {cs : List Cz} {k : Nat} {qs : List Pm} {v v5 : Value} {w3 w5 : World} {ty : Int} {l : List UInt8} {s : Value} {o : Obj} {gc U : Nat} {va : Value} (h : OInv w w2 L n cs k qs v w3)
    (hlie : ∀ d ∈ cs, Lies d gc U va w2.heap.size) (hsd : ∀ d ∈ cs, 0 < d.l.length → ∀ g, w2.heap.size ≤ g → Far d.s g) (hL : 0 < n * 1 → ∀ g, w2.heap.size ≤ g → Far L g)
    (hx : (cs.map Cz.c)[k]? = some (ty, l)) (hs : Sl w3 s l) (hn : 0 < l.length → ∀ j, v.ownBlock = some j → Far s j) (hz : w.heap.size ≤ w2.heap.size)
    (hown : w5.ownsRow w2.heap.size 52 2 v5 (k + 1) (pms .u16 qs ++ [.int .u16 ty, s])) (hg : (w3.alloc o).grownBy w5 v.ownBlock) (hv : v5.ownBlock = v.ownBlock ∨ v5.ownBlock = some (w3.alloc o).heap.size) :
    OInv w w2 L n cs (k + 1) (qs ++ [⟨ty, s, l⟩]) v5 w5 := by
  have hvb : ∀ j, v.ownBlock = some j → w2.heap.size ≤ j := fun j hj => (h.p.own.lt j hj).1
  have hsz := h.p.size
  have hb := (Below.refl w3.heap.size w3).alloc (Nat.le_refl _) o
  refine ⟨h.p.step hx hs hn hown hg hv, fun d hd => ((h.all d hd).below hb).only0 hg (fun j hj => ⟨by have := (hlie d hd).2.2.2.1; have := hvb j hj; omega, fun hp => hsd d hd hp j (hvb j hj)⟩), ?_, (h.bel.alloc h.bel.size o).grown hg (by simp; have := h.bel.size; omega) (fun j hj => by have := hvb j hj; omega)⟩
  cases hv' : v.ownBlock with
  | none => rw [hv'] at hg; exact (h.rd.alloc o).below ⟨hg.os, hg.tape, hg.output, hg.size, fun i hi => hg.block i hi (by simp)⟩
  | some j => rw [hv'] at hg; exact (h.rd.alloc o).only' hg (fun hp => hL hp j (hvb j hv'))

theorem OInv.drew {w w2 : World} {L : Value} {n : Nat} {cs : List Cz} {k : Nat} {qs : List Pm} {v : Value} {wr : World} (h : OInv w w2 L n cs k qs v wr) : OInv w w2 L n cs k qs v wr.drew :=
  ⟨⟨h.p.con, h.p.len, h.p.own.drew, h.p.all, h.p.far, h.p.size⟩, h.all, h.rd.drew, h.bel.drew⟩

/-- Parameters are handed back, with no error. -/
def RetPmE (w : World) (k : IntKind) (u : Value) (ds : List (Int × List UInt8)) (e : Ending) (w' : World) : Prop :=
  ∃ A c qs, e = .returned (.tuple #[.slice A ds.length c, u]) ∧ qs.map Pm.c = ds ∧ qs.length = ds.length ∧ Rd w' 2 ds.length (.slice A ds.length c) (pms k qs) ∧ PAll qs w' ∧ Below w.heap.size w w'

set_option maxRecDepth 20000 in
set_option maxHeartbeats 1600000 in
theorem zzabof_any (A : Option Addr) (n c : Nat) (ds : List (Int × List UInt8)) (w : World) (hs : Sl w (.slice A n c) (chunk 6 0 (pflat ds))) (hl : ds.length ≤ 1000) (hlen : (pflat ds).length ≤ 65531) (hp : ∀ d ∈ ds, (d.1 = 12 ∨ d.1 = 13) ∧ d.2.length ≤ 65531) :
    Calls Tryd.prog 12 #[.slice A n c] w (RetPmE w .u16 .nilIface ds) := by
  have Hs := Lib.hid hs
  have Hl := Lib.hid hl
  have Hlen := Lib.hid hlen
  have HP := Lib.hid hp
  clear hs hl hlen hp
  go_enter Tryd.func12, Tryd.ntmps12
  go_wp2_with fail
  refine (abunmarshal w.heap.size _ A n c ds _ (Row.new' _ _ _ rfl) (Hs.out.alloc _) (Hs.out.far (by rw [chunk_length]; omega) (Nat.le_refl _)) Hl.out Hlen.out HP.out).mono ?_
  rintro e w2 ⟨U, hd, cs, va, rfl, hd3, hdi, hU, hcs, hI⟩
  have hU' : w.heap.size + 1 ≤ U := by simpa using hU
  have hlc : cs.length = ds.length := by rw [← hcs]; simp
  have hown := hI.own
  rw [hlc] at hown
  obtain ⟨Av, cv, hv⟩ := own_slice hown
  subst hv
  obtain ⟨q, hq⟩ : ∃ q, q = ds.length := ⟨_, rfl⟩
  rw [← hq] at hown hI hlc
  have hR2 := Rd.of_own hown
  have y3 : w2.cell? ⟨w.heap.size, 3, none⟩ = some (.slice Av q cv) := by
    rw [hI.row.cell]
    match hd, hd3 with
    | [a, b, d], _ => rfl
  have hB2 : Below w.heap.size w w2 := ((Below.refl w.heap.size w).alloc (Nat.le_refl _) _).trans ⟨hI.bel.os, hI.bel.tape, hI.bel.output, hI.bel.size, fun i hi => hI.bel.block i (by simp; omega) (by intro e; injection e with e; omega)⟩
  have HO2 : Hid (OInv w w2 (.slice Av q cv) q cs 0 [] (.slice none 0 0) w2) := Lib.hid ⟨PInv0.start _ _ _ _ (Nat.le_refl _), hI.all, hR2, hB2⟩
  have HI := Lib.hid hI
  have Hq := Lib.hid hq
  have Hlc := Lib.hid hlc
  have Hcs := Lib.hid hcs
  have HF := Lib.hid (fun (hp : 0 < q * 1) g (hg : w2.heap.size ≤ g) => hR2.farN hg hp)
  have hz2 : w.heap.size ≤ w2.heap.size := hB2.size
  have hq1 : q ≤ 1000 := by have := Hl.out; omega
  obtain ⟨A', c', hv, hnc, hcm, hl0, h0, hc⟩ := hR2
  injection hv with e1 e2 e3
  subst e1 e3
  unfold maxLen at hcm
  clear hd3 hdi hcs hI hown hB2 hl0 h0 hc hlc hq e2
  go_wp2_with fail
  go_loopw [6, 24] (fun v i wr => ∃ (k : Nat) (qs : List Pm), k ≤ q ∧ i = .int .i64 k ∧ Hid (OInv w w2 (.slice Av q cv) q cs k qs v wr)) (fun _ i _ => q - (intOf i).toNat)
  case atStart => exact ⟨0, [], Nat.zero_le _, rfl, HO2⟩
  case round =>
    obtain ⟨k, qs, hk, rfl, HO⟩ := hrel
    by_cases hlt : k < q
    · have hx : cs[k]? = some (cs[k]'(by have := Hlc.out; omega)) := List.getElem?_eq_getElem _
      generalize cs[k]'(by have := Hlc.out; omega) = c at hx
      have hm := List.mem_of_getElem? hx
      obtain ⟨hty, hne, hcU, hcz, hcl, hcf, hcj⟩ := HI.out.lies c hm
      obtain ⟨A', c', hv, hnc', hcm', hl0, h0, hc⟩ := HO.out.rd
      injection hv with e1 e2 e3
      subst e1 e3
      obtain ⟨g, o, rfl, hg⟩ := hc (by omega)
      have hcell : wr.cell? ⟨g, o + k, none⟩ = some (.iface (eT c.ty) (.pointer (some ⟨c.g, 0, none⟩))) := hg k _ (by simp [hx, Cz.v])
      have hmeth : ∀ (a : Addr) (w : World), (method 204 (eT c.ty) (.pointer (some a)) "loop.example/pub-g03037/pub/sctp.marshal").run Tryd.prog w = .ok (mF c.ty, .pointer (some a)) w := by
        rcases hty with e | e <;> rw [e] <;> intro a w
        · exact (show (method 204 (eT 12) (.pointer (some a)) "loop.example/pub-g03037/pub/sctp.marshal").run Tryd.prog w = .ok (mF 12, .pointer (some a)) w by kernel_rfl)
        · exact (show (method 204 (eT 13) (.pointer (some a)) "loop.example/pub-g03037/pub/sctp.marshal").run Tryd.prog w = .ok (mF 13, .pointer (some a)) w by kernel_rfl)
      have henter : ∀ (v : Value) (w : World), (callFunc (mF c.ty) #[v]).run Tryd.prog w = .ok (.enter (mF c.ty) #[v]) w := by
        rcases hty with e | e <;> rw [e] <;> intro v w
        · exact (show (callFunc (mF 12) #[v]).run Tryd.prog w = .ok (.enter (mF 12) #[v]) w by kernel_rfl)
        · exact (show (callFunc (mF 13) #[v]).run Tryd.prog w = .ok (.enter (mF 13) #[v]) w by kernel_rfl)
      have hcode : ∀ (a : Addr) (w : World), (method 204 (eT c.ty) (.pointer (some a)) "loop.example/pub-g03037/pub/sctp.errorCauseCode").run Tryd.prog w = .ok (39, .pointer (some a)) w := by
        rcases hty with e | e <;> rw [e] <;> intro a w
        · exact (show (method 204 (eT 12) (.pointer (some a)) "loop.example/pub-g03037/pub/sctp.errorCauseCode").run Tryd.prog w = .ok (39, .pointer (some a)) w by kernel_rfl)
        · exact (show (method 204 (eT 13) (.pointer (some a)) "loop.example/pub-g03037/pub/sctp.errorCauseCode").run Tryd.prog w = .ok (39, .pointer (some a)) w by kernel_rfl)
      have HX := Lib.hid hx
      have Hm := Lib.hid hm
      have Hcal := Lib.hid (cmarshal c wr (HO.out.all c hm) hty hcl)
      have hct : c.ty ≤ 13 := by omega
      generalize eT c.ty = T at hcell hmeth hcode
      generalize mF c.ty = F at hmeth Hcal henter
      obtain ⟨G, hG⟩ : ∃ G, G = c.g := ⟨_, rfl⟩
      rw [← hG] at hcell Hcal
      have HG := Lib.hid hG
      clear hG hx hm hc hg h0 hl0 e2 hcf hne hcl hty hcj
      go_wp2_with fail
      refine Hcal.out.mono ?_
      rintro e w3 ⟨A3, n3, c3, rfl, hS3, hR3, hG3, hF3⟩
      have hO3 := HO.out.marshal Hm.out ⟨by omega, hcz⟩ hG3 hR3 hz2
      have hl3 := hS3.len
      rw [tlv_length] at hl3
      obtain ⟨m, B1, m1, d1, hR3⟩ := hR3
      have hk0 : w3.cell? ⟨G, 0, none⟩ = some (.int .u16 (c.ty : Int)) := by rw [HG.out, hR3.cell]; rfl
      have HO3 := Lib.hid hO3
      have HR3 := Lib.hid hR3
      have HF3 := Lib.hid hF3
      have HS3 := Lib.hid hS3
      have Hl3 := Lib.hid hl3
      have hS3' := hS3
      obtain ⟨A', c', hv, hnc3, hcm3, hl0, h0, hc⟩ := hS3'
      injection hv with e1 e2 e3
      subst e1 e3
      obtain ⟨g3, o3, rfl, _⟩ := hc (by rw [tlv_length]; omega)
      have hn4 : 4 ≤ n3 := by omega
      have hn3c : n3 ≤ c3 := by rw [tlv_length] at hnc3; omega
      have hz3 : wr.heap.size ≤ w3.heap.size := hG3.size
      unfold maxLen at hcm3
      clear hO3 hR3 hF3 hS3 hl3 hG3 hc h0 hl0 e2 hnc3 hcell Hcal hmeth henter
      go_upto_region 12 with fail
      have i4 : (4 : Int) ≤ (n3 : Int) := by omega
      by_cases hc4 : c3 = 4
      · obtain rfl : n3 = 4 := by omega
        subst hc4
        have hS4 := HS3.out.sub 4 (4 - 4) (by omega)
        rw [show ((tlv c.ty c.l).drop 4).take (4 - 4) = c.l by rw [show c.l = [] from List.eq_nil_of_length_eq_zero (by have := Hl3.out; omega)]; simp] at hS4
        simp only [if_true, Nat.sub_self] at hS4
        have HS4 := Lib.hid hS4
        have hF4 : ∀ j, j < wr.heap.size → Far (.slice (some ⟨g3, o3, none⟩) 0 0) j := fun j hj A n c e => by cases e; exact HF3.out j hj ⟨g3, o3, none⟩ 4 4 rfl
        have HF4 := Lib.hid hF4
        have hk0' : w3.drew.cell? ⟨G, 0, none⟩ = some (.int .u16 (c.ty : Int)) := hk0
        obtain ⟨cty, hcty⟩ : ∃ cty : Int, cty = (c.ty : Int) := ⟨_, rfl⟩
        rw [← hcty] at hk0 hk0'
        have Hcty := Lib.hid hcty
        have hvz : ∀ j, u6.ownBlock = some j → w2.heap.size ≤ j := fun j hj => (HO3.out.p.own.lt j hj).1
        have Hvz := Lib.hid hvz
        clear hS4 hF4 hcty hvz
        go_region_held3 (fun w' => w'.cell? ⟨G, 0, none⟩ = some (.int .u16 cty)) (first | (with_reducible exact hk0') | (with_reducible exact kk5) | exact (by rw [HG.out, (Row.drew (Row.alloc HR3.out _)).cell, Hcty.out]; rfl))
          (first
            | (go_at_call 39; refine (echcode G cty _ hk0').mono ?_; rintro z w4 ⟨rfl, rfl⟩)
            | (refine step_append_rd _ rfl _ _ rfl zpT w2.heap.size u6 k _ rfl (HO3.out.p.own.drew.alloc _) _ 1 [_, _] rfl (Rd.lit2 _ 52 (.int .u16 cty) (.slice (some ⟨g3, o3, none⟩) 0 0) (by simp)) (by simp [Value.oneCell']) (by unfold maxLen; omega) (by omega) (Nat.le_trans HO3.out.p.size (by simp)) ?_; intro v5 w5 hown5 hg5 hat5; obtain ⟨A5, c5, e5⟩ := own_slice hown5; subst e5; have r5 := (HR3.out.drew.alloc (.cells #[.int .u16 cty, .slice (some ⟨g3, o3, none⟩) 0 0] 52)).grown hg5 (fun e => by have := Hvz.out _ e.symm; omega); have kk5 : w5.cell? ⟨G, 0, none⟩ = some (.int .u16 cty) := (by rw [HG.out, r5.cell, Hcty.out]; rfl); have O5 := Lib.hid hown5; have L5 := Lib.hid hg5; have T5 := Lib.hid hat5; clear r5 hown5 hg5 hat5))
        have hO3d : OInv w w2 (.slice (some ⟨g, o, none⟩) q cv) q cs k qs u6 w3.drew := HO3.out.drew
        have HO5 := Lib.hid (hO3d.append HI.out.lies (fun d hd hp g hg => (HI.out.all d hd).farN hg hp) HF.out (ty := cty) (l := c.l) (by rw [List.getElem?_map, HX.out, Hcty.out]; rfl) HS4.out.drew (fun hp j hj => HF4.out j (HO.out.p.own.lt j hj).2) hz2 O5.out L5.out T5.out)
        clear hk0 hk0' kk5 hO3d
        go_wp2
        go_roundw
        case rel => exact ⟨k + 1, _, by omega, by go_num, HO5⟩
        case measure => simp [intOf]; omega
      · have hS4 := HS3.out.sub 4 (n3 - 4) (by omega)
        rw [show ((tlv c.ty c.l).drop 4).take (n3 - 4) = c.l by rw [Hl3.out]; simp [tlv, be_two]] at hS4
        rw [if_neg hc4] at hS4
        have HS4 := Lib.hid hS4
        have hF4 : ∀ j, j < wr.heap.size → Far (.slice (some ⟨g3, o3 + 4, none⟩) (n3 - 4) (c3 - 4)) j := fun j hj A n c e => by cases e; exact HF3.out j hj ⟨g3, o3, none⟩ n3 c3 rfl
        have HF4 := Lib.hid hF4
        have hk0' : w3.drew.cell? ⟨G, 0, none⟩ = some (.int .u16 (c.ty : Int)) := hk0
        obtain ⟨cty, hcty⟩ : ∃ cty : Int, cty = (c.ty : Int) := ⟨_, rfl⟩
        rw [← hcty] at hk0 hk0'
        have Hcty := Lib.hid hcty
        have hvz : ∀ j, u6.ownBlock = some j → w2.heap.size ≤ j := fun j hj => (HO3.out.p.own.lt j hj).1
        have Hvz := Lib.hid hvz
        clear hS4 hF4 hcty hvz
        go_region_held3 (fun w' => w'.cell? ⟨G, 0, none⟩ = some (.int .u16 cty)) (first | (with_reducible exact hk0') | (with_reducible exact kk5) | exact (by rw [HG.out, (Row.drew (Row.alloc HR3.out _)).cell, Hcty.out]; rfl))
          (first
            | (go_at_call 39; refine (echcode G cty _ hk0').mono ?_; rintro z w4 ⟨rfl, rfl⟩)
            | (refine step_append_rd _ rfl _ _ rfl zpT w2.heap.size u6 k _ rfl (HO3.out.p.own.drew.alloc _) _ 1 [_, _] rfl (Rd.lit2 _ 52 (.int .u16 cty) (.slice (some ⟨g3, o3 + 4, none⟩) (n3 - 4) (c3 - 4)) (by simp)) (by simp [Value.oneCell']) (by unfold maxLen; omega) (by omega) (Nat.le_trans HO3.out.p.size (by simp)) ?_; intro v5 w5 hown5 hg5 hat5; obtain ⟨A5, c5, e5⟩ := own_slice hown5; subst e5; have r5 := (HR3.out.drew.alloc (.cells #[.int .u16 cty, .slice (some ⟨g3, o3 + 4, none⟩) (n3 - 4) (c3 - 4)] 52)).grown hg5 (fun e => by have := Hvz.out _ e.symm; omega); have kk5 : w5.cell? ⟨G, 0, none⟩ = some (.int .u16 cty) := (by rw [HG.out, r5.cell, Hcty.out]; rfl); have O5 := Lib.hid hown5; have L5 := Lib.hid hg5; have T5 := Lib.hid hat5; clear r5 hown5 hg5 hat5))
        have hO3d : OInv w w2 (.slice (some ⟨g, o, none⟩) q cv) q cs k qs u6 w3.drew := HO3.out.drew
        have HO5 := Lib.hid (hO3d.append HI.out.lies (fun d hd hp g hg => (HI.out.all d hd).farN hg hp) HF.out (ty := cty) (l := c.l) (by rw [List.getElem?_map, HX.out, Hcty.out]; rfl) HS4.out.drew (fun hp j hj => HF4.out j (HO.out.p.own.lt j hj).2) hz2 O5.out L5.out T5.out)
        clear hk0 hk0' kk5 hO3d
        go_wp2
        go_roundw
        case rel => exact ⟨k + 1, _, by omega, by go_num, HO5⟩
        case measure => simp [intOf]; omega
    · obtain rfl : k = q := by omega
      have hcon := HO.out.p.con
      rw [Hcs.out, List.take_of_length_le (by have := Hq.out; omega)] at hcon
      have hO := HO.out.p.own
      obtain ⟨A6, c6, hv⟩ := own_slice hO
      subst hv
      have HO6 := Lib.hid (Rd.of_own hO)
      have Hcon := Lib.hid hcon
      clear hcon hO
      go_wp2
      go_ret2
      exact ⟨A6, c6, qs, by rw [← Hq.out]; rfl, Hcon.out, by rw [HO.out.p.len, Hq.out], by rw [← Hq.out]; exact HO6.out, HO.out.p.all, HO.out.bel⟩
end Go.Proofs.YtjbegflgbkgjpaaDoor
