/- Lists of parameters (a type and a value each) as cells; contracts of paramsOf, params, zzFits7, zzFits6. Conditions: types of 16 bits, bounds on lengths (paramsOf, params). -/
import Derived.Test.YtokkhfjlbnochaaDoorCom
namespace Go.Proofs.YtokkhfjlbnochaaDoor
open Go.RowKit Go.Lib

/-- A parameter as plain data: its type; where its value lies; the value. -/
structure Pm where
  ty : Int
  s : Value
  l : List UInt8
def Pm.c (p : Pm) : Int × List UInt8 := (p.ty, p.l)
/-- Parameters as cells. -/
def pms (k : IntKind) (ps : List Pm) : List Value := ps.flatMap fun p => [.int k p.ty, p.s]
theorem pms_length (k : IntKind) (ps : List Pm) : (pms k ps).length = ps.length * 2 := by
  induction ps with
  | nil => rfl
  | cons a l ih => simp only [pms, List.flatMap_cons, List.length_append, List.length_cons, List.length_nil] at ih ⊢; omega
theorem pms_get (k : IntKind) (ps : List Pm) (j : Nat) (p : Pm) (h : ps[j]? = some p) : (pms k ps)[j * 2]? = some (.int k p.ty) ∧ (pms k ps)[j * 2 + 1]? = some p.s := by
  induction ps generalizing j with
  | nil => simp at h
  | cons a l ih =>
    cases j with
    | zero => simp at h; subst h; exact ⟨rfl, rfl⟩
    | succ j =>
      obtain ⟨h1, h2⟩ := ih j (by simpa using h)
      have e : pms k (a :: l) = .int k a.ty :: a.s :: pms k l := rfl
      rw [e]
      exact ⟨by rw [show (j + 1) * 2 = j * 2 + 1 + 1 by omega]; simpa using h1, by rw [show (j + 1) * 2 + 1 = j * 2 + 1 + 1 + 1 by omega]; simpa using h2⟩
theorem pms_snoc (k : IntKind) (ps : List Pm) (p : Pm) : pms k (ps ++ [p]) = pms k ps ++ [.int k p.ty, p.s] := by simp [pms]
theorem pms_mem {k : IntKind} {ps : List Pm} {x : Value} (h : x ∈ pms k ps) : ∃ p ∈ ps, x = .int k p.ty ∨ x = p.s := by
  obtain ⟨p, hp, hx⟩ := List.mem_flatMap.1 h
  simp only [List.mem_cons, List.not_mem_nil, or_false] at hx
  exact ⟨p, hp, hx⟩

/-- Every parameter's value reads as its bytes. -/
def PAll (ps : List Pm) (w : World) : Prop := ∀ p ∈ ps, Sl w p.s p.l
theorem PAll.below {ps : List Pm} {w w' : World} (h : PAll ps w) (hb : Below w.heap.size w w') : PAll ps w' := fun p hp => (h p hp).below hb
theorem PAll.alloc {ps : List Pm} {w : World} (h : PAll ps w) (o : Obj) : PAll ps (w.alloc o) := fun p hp => (h p hp).alloc o

theorem pm_cells {w wr : World} {g o : Nat} {k : IntKind} {ps : List Pm} {j : Nat} {p : Pm} (hg : ∀ (j : Nat) (u : Value), (pms k ps)[j]? = some u → w.cell? ⟨g, o + j, none⟩ = some u) (hb : Below w.heap.size w wr) (h : ps[j]? = some p) :
    wr.cell? ⟨g, o + j * 2, none⟩ = some (.int k p.ty) ∧ wr.cell? ⟨g, o + j * 2 + 1, none⟩ = some p.s := by
  obtain ⟨g1, g2⟩ := pms_get k ps j p h
  have h1 := hg _ _ g1
  have h2 := hg _ _ g2
  rw [← Nat.add_assoc] at h2
  exact ⟨(hb.cell (World.block_lt_of_cell? w _ h1)).trans h1, (hb.cell (World.block_lt_of_cell? w _ h2)).trans h2⟩

/-- copied hands back bytes in new memory. -/
theorem copied_new (v : Value) (l : List UInt8) (w : World) (h : Sl w v l) (hl : l.length ≤ 1000000000) :
    Calls Tryd.prog 13 #[v] w fun e w' => ∃ A n c, e = .returned (.slice A n c) ∧ Sl w' (.slice A n c) l ∧ Below w.heap.size w w' ∧ ∀ g, g < w.heap.size → Far (.slice A n c) g := by
  go_enter Tryd.func13, Tryd.ntmps13
  go_wp2_with (at_builtin; refine wpList_append_rd _ rfl _ _ rfl bT w.heap.size (.slice none 0 0) 0 [] rfl (World.ownsRow_nil _ _ _ _) v l.length (bvs l) rfl h (bvs_one l) (by unfold maxLen; omega) (by omega) (Nat.le_refl _) ?_)
  intro v1 w1 hown hg hat
  go_wp2
  go_ret
  obtain ⟨A, c, rfl⟩ := own_slice hown
  exact ⟨A, _, c, rfl, by first | exact Sl.of_own hown | exact Sl.of_own (by simpa using hown), (Below.refl _ _).grown hg (Nat.le_refl _) (by simp [Value.ownBlock]), fun g hg => own_far hown hg⟩

theorem own_below {w w' : World} {B : Nat} {e : TypeId} {size n : Nat} {v : Value} {xs : List Value} (h : w.ownsRow B e size v n xs) (hb : Below w.heap.size w w') : w'.ownsRow B e size v n xs := h.kept (grown_of_below hb none) (by cases h : v.ownBlock <;> simp)
theorem zpT : ElT Tryd.prog 42 61 (.agg #[.int .u16 0, .slice none 0 0]) 2 32 := ⟨Tryd.underlying42, by kernel_rfl, rfl, by decide⟩
theorem ipT : ElT Tryd.prog 23 35 (.agg #[.int .i64 0, .slice none 0 0]) 2 32 := ⟨Tryd.underlying23, by kernel_rfl, rfl, by decide⟩

/-- What holds in a loop that copies parameters. -/
structure PInv (E : TypeId) (K : IntKind) (w : World) (cs : List (Int × List UInt8)) (k : Nat) (qs : List Pm) (v : Value) (wr : World) : Prop where
  con : qs.map Pm.c = cs.take k
  len : qs.length = k
  own : wr.ownsRow w.heap.size E 2 v k (pms K qs)
  all : PAll qs wr
  far : ∀ p ∈ qs, 0 < p.l.length → ∀ j, v.ownBlock = some j → Far p.s j
  bel : Below w.heap.size w wr

theorem PInv.start (E : TypeId) (K : IntKind) (w : World) (cs : List (Int × List UInt8)) : PInv E K w cs 0 [] (.slice none 0 0) w :=
  ⟨rfl, rfl, World.ownsRow_nil _ _ _ _, fun _ h => by simp at h, fun _ h => by simp at h, Below.refl _ _⟩

theorem PInv.step {E : TypeId} {K : IntKind} {w : World} {cs : List (Int × List UInt8)} {k : Nat} {qs : List Pm} {v v5 : Value} {wr w1 w5 : World} {x : Pm} {s : Value} {o : Obj} (h : PInv E K w cs k qs v wr)
    (hx : cs[k]? = some x.c) (hb1 : Below wr.heap.size wr w1) (hs : Sl w1 s x.l) (hn : 0 < x.l.length → ∀ g, g < wr.heap.size → Far s g)
    (hown : w5.ownsRow w.heap.size E 2 v5 (k + 1) (pms K qs ++ [.int K x.ty, s])) (hg : (w1.alloc o).grownBy w5 v.ownBlock) (hv : v5.ownBlock = v.ownBlock ∨ v5.ownBlock = some (w1.alloc o).heap.size) :
    PInv E K w cs (k + 1) (qs ++ [⟨x.ty, s, x.l⟩]) v5 w5 := by
  have hvb : ∀ j, v.ownBlock = some j → w.heap.size ≤ j ∧ j < wr.heap.size := fun j hj => by
    obtain ⟨h1, h2⟩ := h.own.lt j hj
    exact ⟨h1, h2⟩
  have hb2 : Below wr.heap.size wr (w1.alloc o) := hb1.alloc hb1.size o
  have hfar : ∀ p ∈ qs ++ [(⟨x.ty, s, x.l⟩ : Pm)], 0 < p.l.length → ∀ j, v.ownBlock = some j → Far p.s j := by
    intro p hp hl j hj
    rcases List.mem_append.1 hp with hp | hp
    · exact h.far p hp hl j hj
    · obtain rfl := List.mem_singleton.1 hp
      exact hn hl j (hvb j hj).2
  have hall : PAll (qs ++ [(⟨x.ty, s, x.l⟩ : Pm)]) (w1.alloc o) := by
    intro p hp
    rcases List.mem_append.1 hp with hp | hp
    · exact (h.all p hp).below hb2
    · obtain rfl := List.mem_singleton.1 hp
      exact hs.alloc o
  refine ⟨?_, by simp [h.len], by rw [pms_snoc]; exact hown, fun p hp => ?_, fun p hp hl j hj => ?_, (h.bel.trans (hb2.mono h.bel.size)).grown hg (by have := h.bel.size; have := hb2.size; omega) (fun j hj => (hvb j hj).1)⟩
  · rw [List.take_add_one, hx, List.map_append, h.con]
    rfl
  · cases hv' : v.ownBlock with
    | none => rw [hv'] at hg; exact (hall p hp).below ⟨hg.os, hg.tape, hg.output, hg.size, fun i hi => hg.block i hi (by simp)⟩
    | some j => rw [hv'] at hg; exact (hall p hp).only' hg (fun hl => hfar p hp hl j hv')
  · rcases hv with e | e
    · exact hfar p hp hl j (by rw [← e]; exact hj)
    · rw [e] at hj
      injection hj with hj
      have hS := hall p hp
      obtain ⟨A, c, hpe, _⟩ := hS
      have hS := hall p hp
      rw [hpe] at hS ⊢
      exact hS.far hl (by omega)

/-- A call that returns parameters, in new memory. -/
def RetPmN (w : World) (k : IntKind) (ps : List Pm) (e : Ending) (w' : World) : Prop :=
  ∃ A c qs, e = .returned (.slice A ps.length c) ∧ qs.map Pm.c = ps.map Pm.c ∧ qs.length = ps.length ∧ Rd w' 2 ps.length (.slice A ps.length c) (pms k qs) ∧ PAll qs w' ∧ Below w.heap.size w w' ∧ ∀ g, g < w.heap.size → Far (.slice A ps.length c) g

/-- A call that returns parameters. -/
def RetPm (w : World) (k : IntKind) (ps : List Pm) (e : Ending) (w' : World) : Prop :=
  ∃ A c qs, e = .returned (.slice A ps.length c) ∧ qs.map Pm.c = ps.map Pm.c ∧ qs.length = ps.length ∧ Rd w' 2 ps.length (.slice A ps.length c) (pms k qs) ∧ PAll qs w' ∧ Below w.heap.size w w'

set_option maxRecDepth 20000 in
set_option maxHeartbeats 1600000 in
theorem paramsOf_any (v : Value) (ps : List Pm) (w : World) (h : Rd w 2 ps.length v (pms .i64 ps)) (ha : PAll ps w) (hl : ps.length ≤ 1000000) (hr : ∀ p ∈ ps, 0 ≤ p.ty ∧ p.ty ≤ 65535 ∧ p.l.length ≤ 1000000) :
    Calls Tryd.prog 12 #[v] w (RetPm w .u16 ps) := by
  obtain ⟨n, hn⟩ : ∃ n, n = ps.length := ⟨_, rfl⟩
  unfold RetPm
  rw [← hn] at h hl ⊢
  obtain ⟨A, c, rfl, hnc, hcm, hl0, h0, hc⟩ := h
  have HC := Lib.hid hc
  have Hn := Lib.hid hn
  have HR := Lib.hid hr
  have HA := Lib.hid ha
  clear hc h0 hl0 hr hn ha
  unfold maxLen at hcm
  go_enter Tryd.func12, Tryd.ntmps12
  go_wp2
  go_loopw [3, 8] (fun v i wr => ∃ (k : Nat) (qs : List Pm), k ≤ n ∧ i = .int .i64 k ∧ Hid (PInv 61 .u16 w (ps.map Pm.c) k qs v wr)) (fun _ i _ => n - (intOf i).toNat)
  case atStart => exact ⟨0, [], Nat.zero_le _, rfl, Lib.hid (PInv.start _ _ _ _)⟩
  case round =>
    obtain ⟨k, qs, hk, rfl, HI⟩ := hrel
    by_cases hlt : k < n
    · obtain ⟨g, o, rfl, hg⟩ := HC.out (by omega)
      have hlk : k < ps.length := by have := Hn.out; omega
      have hx : ps[k]? = some ps[k] := List.getElem?_eq_getElem hlk
      obtain ⟨ha, hb2, hlen⟩ := HR.out _ (List.getElem_mem hlk)
      have hs := HA.out _ (List.getElem_mem hlk)
      generalize ps[k] = x at hx ha hb2 hs hlen
      obtain ⟨hc1, hc2⟩ := pm_cells hg HI.out.bel hx
      have hsr := hs.below HI.out.bel
      have hbs := HI.out.bel.size
      have Hx := Lib.hid (show (ps.map Pm.c)[k]? = some x.c by simp [hx])
      obtain ⟨tx, sx, lx⟩ := x
      simp only at ha hb2 hc1 hc2 hlen hs hsr
      have hs' := hsr
      obtain ⟨As, cs, rfl, _⟩ := hs'
      generalize lx.length = nx at hc2 hsr
      have hw1 : IntKind.u16.wrap tx = tx := by simp [IntKind.wrap, IntKind.bits, IntKind.signed]; omega
      have Hsr := Lib.hid hsr
      clear hx hg hs hsr
      go_upto_region 5 with fail
      have hG := Row.new wr 35 #[.int .i64 tx, .slice As nx cs]
      have hSa := Hsr.out.alloc (.cells #[.int .i64 tx, .slice As nx cs] 35)
      have hBa := (Below.refl wr.heap.size wr).alloc (Nat.le_refl _) (.cells #[.int .i64 tx, .slice As nx cs] 35)
      have hz : (wr.alloc (.cells #[.int .i64 tx, .slice As nx cs] 35)).heap.size = wr.heap.size + 1 := by simp
      have hOa := HI.out.own.alloc (.cells #[.int .i64 tx, .slice As nx cs] 35)
      have hgp : ∀ j, u3.ownBlock = some j → j < wr.heap.size := fun j hj => (HI.out.own.lt j hj).2
      have Hgz := Lib.hid (rfl : wr.heap.size = wr.heap.size)
      generalize wr.alloc (.cells #[.int .i64 tx, .slice As nx cs] 35) = W at hG hSa hBa hz hOa ⊢
      have Hgp := Lib.hid hgp
      have HG := Lib.hid hG
      have HSa := Lib.hid hSa
      have HBa := Lib.hid hBa
      have HOa := Lib.hid hOa
      have Hz := Lib.hid hz
      obtain ⟨gp, hgpe⟩ : ∃ gp, gp = wr.heap.size := ⟨_, rfl⟩
      rw [← hgpe] at HG Hgp ⊢
      have Hgpe := Lib.hid hgpe
      have hk2 : W.drew.cell? ⟨gp, 0, none⟩ = some (.int .i64 tx) ∧ W.drew.cell? ⟨gp, 1, none⟩ = some (.slice As nx cs) := Row.two HG.out.drew
      clear hG hSa hBa hc1 hc2 hbs hz hOa hgp Hgz hgpe
      go_region_held3 (fun w' => w'.cell? ⟨gp, 0, none⟩ = some (.int .i64 tx) ∧ w'.cell? ⟨gp, 1, none⟩ = some (.slice As nx cs)) (first | (with_reducible exact hk2) | (with_reducible exact kk1) | (with_reducible exact kk5) | exact Row.two (Row.alloc G1.out _))
        (first
          | (go_at_call 13; refine (copied_new _ _ _ HSa.out.drew (by omega)).mono ?_; rintro z w1 ⟨A1, n1, c1, rfl, hs1, hb1, hn1⟩; have Q1 := Lib.hid hs1; have B1 := Lib.hid hb1; have N1 := Lib.hid hn1; have g1 := HG.out.drew.below hb1 HG.out.drew.lt; have G1 := Lib.hid g1; have kk1 := g1.two; clear g1 hs1 hb1 hn1)
          | (refine step_append_rd _ rfl _ _ rfl zpT w.heap.size u3 k _ rfl ((own_below HOa.out.drew B1.out).alloc _) _ 1 [_, _] rfl (Rd.lit2 w1 61 (.int .u16 tx) (.slice A1 n1 c1) (by simp)) (by simp [Value.oneCell']) (by unfold maxLen; omega) (by omega) (Nat.le_trans HI.out.bel.size (Nat.le_trans HBa.out.size (Nat.le_trans B1.out.size (by simp)))) ?_; intro v5 w5 hown5 hg5 hat5; obtain ⟨A5, c5, e5⟩ := own_slice hown5; subst e5; have g5 := (G1.out.alloc _).grown hg5 (fun e => by have := Hgp.out _ e.symm; omega); have kk5 := g5.two; have O5 := Lib.hid hown5; have L5 := Lib.hid hg5; have T5 := Lib.hid hat5; clear g5 hown5 hg5 hat5))
      have HI5 := Lib.hid (HI.out.step (x := ⟨tx, .slice As nx cs, lx⟩) Hx.out (HBa.out.drew.trans (B1.out.mono HBa.out.size)) Q1.out (fun _ g hg => N1.out g (by have := Hz.out; show g < W.heap.size; omega)) O5.out L5.out T5.out)
      clear hk2 kk1 kk5
      go_wp2
      go_roundw
      case rel => exact ⟨k + 1, _, by omega, by go_num, HI5⟩
      case measure => simp [intOf]; omega
    · obtain rfl : k = n := by omega
      have hO := HI.out.own
      obtain ⟨Av, cv, hv⟩ := own_slice hO
      subst hv
      have HO2 := Lib.hid (Rd.of_own hO)
      have HII := HI
      clear hO
      go_wp2
      go_ret
      exact ⟨Av, cv, qs, rfl, by rw [HII.out.con]; rw [List.take_of_length_le]; simp; have := Hn.out; omega, HII.out.len, HO2.out, HII.out.all, HII.out.bel⟩
set_option maxRecDepth 20000 in
set_option maxHeartbeats 1600000 in
theorem params_anyN (v : Value) (ps : List Pm) (w : World) (h : Rd w 2 ps.length v (pms .u16 ps)) (ha : PAll ps w) (hl : ps.length ≤ 1000000) (hr : ∀ p ∈ ps, 0 ≤ p.ty ∧ p.ty ≤ 65535 ∧ p.l.length ≤ 1000000) :
    Calls Tryd.prog 15 #[v] w (RetPmN w .i64 ps) := by
  obtain ⟨n, hn⟩ : ∃ n, n = ps.length := ⟨_, rfl⟩
  unfold RetPmN
  rw [← hn] at h hl ⊢
  obtain ⟨A, c, rfl, hnc, hcm, hl0, h0, hc⟩ := h
  have HC := Lib.hid hc
  have Hn := Lib.hid hn
  have HR := Lib.hid hr
  have HA := Lib.hid ha
  clear hc h0 hl0 hr hn ha
  unfold maxLen at hcm
  go_enter Tryd.func15, Tryd.ntmps15
  go_wp2
  go_loopw [3, 8] (fun v i wr => ∃ (k : Nat) (qs : List Pm), k ≤ n ∧ i = .int .i64 k ∧ Hid (PInv 35 .i64 w (ps.map Pm.c) k qs v wr)) (fun _ i _ => n - (intOf i).toNat)
  case atStart => exact ⟨0, [], Nat.zero_le _, rfl, Lib.hid (PInv.start _ _ _ _)⟩
  case round =>
    obtain ⟨k, qs, hk, rfl, HI⟩ := hrel
    by_cases hlt : k < n
    · obtain ⟨g, o, rfl, hg⟩ := HC.out (by omega)
      have hlk : k < ps.length := by have := Hn.out; omega
      have hx : ps[k]? = some ps[k] := List.getElem?_eq_getElem hlk
      obtain ⟨ha, hb2, hlen⟩ := HR.out _ (List.getElem_mem hlk)
      have hs := HA.out _ (List.getElem_mem hlk)
      generalize ps[k] = x at hx ha hb2 hs hlen
      obtain ⟨hc1, hc2⟩ := pm_cells hg HI.out.bel hx
      have hsr := hs.below HI.out.bel
      have hbs := HI.out.bel.size
      have Hx := Lib.hid (show (ps.map Pm.c)[k]? = some x.c by simp [hx])
      obtain ⟨tx, sx, lx⟩ := x
      simp only at ha hb2 hc1 hc2 hlen hs hsr
      have hs' := hsr
      obtain ⟨As, cs, rfl, _⟩ := hs'
      generalize lx.length = nx at hc2 hsr
      have hw1 : IntKind.i64.wrap tx = tx := by simp [IntKind.wrap, IntKind.bits, IntKind.signed]; omega
      have Hsr := Lib.hid hsr
      clear hx hg hs hsr
      go_upto_region 5 with fail
      have hG := Row.new wr 61 #[.int .u16 tx, .slice As nx cs]
      have hSa := Hsr.out.alloc (.cells #[.int .u16 tx, .slice As nx cs] 61)
      have hBa := (Below.refl wr.heap.size wr).alloc (Nat.le_refl _) (.cells #[.int .u16 tx, .slice As nx cs] 61)
      have hz : (wr.alloc (.cells #[.int .u16 tx, .slice As nx cs] 61)).heap.size = wr.heap.size + 1 := by simp
      have hOa := HI.out.own.alloc (.cells #[.int .u16 tx, .slice As nx cs] 61)
      have hgp : ∀ j, u3.ownBlock = some j → j < wr.heap.size := fun j hj => (HI.out.own.lt j hj).2
      have Hgz := Lib.hid (rfl : wr.heap.size = wr.heap.size)
      generalize wr.alloc (.cells #[.int .u16 tx, .slice As nx cs] 61) = W at hG hSa hBa hz hOa ⊢
      have Hgp := Lib.hid hgp
      have HG := Lib.hid hG
      have HSa := Lib.hid hSa
      have HBa := Lib.hid hBa
      have HOa := Lib.hid hOa
      have Hz := Lib.hid hz
      obtain ⟨gp, hgpe⟩ : ∃ gp, gp = wr.heap.size := ⟨_, rfl⟩
      rw [← hgpe] at HG Hgp ⊢
      have Hgpe := Lib.hid hgpe
      have hk2 : W.drew.cell? ⟨gp, 0, none⟩ = some (.int .u16 tx) ∧ W.drew.cell? ⟨gp, 1, none⟩ = some (.slice As nx cs) := Row.two HG.out.drew
      clear hG hSa hBa hc1 hc2 hbs hz hOa hgp Hgz hgpe
      go_region_held3 (fun w' => w'.cell? ⟨gp, 0, none⟩ = some (.int .u16 tx) ∧ w'.cell? ⟨gp, 1, none⟩ = some (.slice As nx cs)) (first | (with_reducible exact hk2) | (with_reducible exact kk1) | (with_reducible exact kk5) | exact Row.two (Row.alloc G1.out _))
        (first
          | (go_at_call 13; refine (copied_new _ _ _ HSa.out.drew (by omega)).mono ?_; rintro z w1 ⟨A1, n1, c1, rfl, hs1, hb1, hn1⟩; have Q1 := Lib.hid hs1; have B1 := Lib.hid hb1; have N1 := Lib.hid hn1; have g1 := HG.out.drew.below hb1 HG.out.drew.lt; have G1 := Lib.hid g1; have kk1 := g1.two; clear g1 hs1 hb1 hn1)
          | (refine step_append_rd _ rfl _ _ rfl ipT w.heap.size u3 k _ rfl ((own_below HOa.out.drew B1.out).alloc _) _ 1 [_, _] rfl (Rd.lit2 w1 35 (.int .i64 tx) (.slice A1 n1 c1) (by simp)) (by simp [Value.oneCell']) (by unfold maxLen; omega) (by omega) (Nat.le_trans HI.out.bel.size (Nat.le_trans HBa.out.size (Nat.le_trans B1.out.size (by simp)))) ?_; intro v5 w5 hown5 hg5 hat5; obtain ⟨A5, c5, e5⟩ := own_slice hown5; subst e5; have g5 := (G1.out.alloc _).grown hg5 (fun e => by have := Hgp.out _ e.symm; omega); have kk5 := g5.two; have O5 := Lib.hid hown5; have L5 := Lib.hid hg5; have T5 := Lib.hid hat5; clear g5 hown5 hg5 hat5))
      have HI5 := Lib.hid (HI.out.step (x := ⟨tx, .slice As nx cs, lx⟩) Hx.out (HBa.out.drew.trans (B1.out.mono HBa.out.size)) Q1.out (fun _ g hg => N1.out g (by have := Hz.out; show g < W.heap.size; omega)) O5.out L5.out T5.out)
      clear hk2 kk1 kk5
      go_wp2
      go_roundw
      case rel => exact ⟨k + 1, _, by omega, by go_num, HI5⟩
      case measure => simp [intOf]; omega
    · obtain rfl : k = n := by omega
      have hO := HI.out.own
      obtain ⟨Av, cv, hv⟩ := own_slice hO
      subst hv
      have HO2 := Lib.hid (Rd.of_own hO)
      have HFF := Lib.hid (fun g hg => own_far hO (g := g) hg)
      have HII := HI
      clear hO
      go_wp2
      go_ret
      exact ⟨Av, cv, qs, rfl, by rw [HII.out.con]; rw [List.take_of_length_le]; simp; have := Hn.out; omega, HII.out.len, HO2.out, HII.out.all, HII.out.bel, HFF.out⟩
theorem params_any (v : Value) (ps : List Pm) (w : World) (h : Rd w 2 ps.length v (pms .u16 ps)) (ha : PAll ps w) (hl : ps.length ≤ 1000000) (hr : ∀ p ∈ ps, 0 ≤ p.ty ∧ p.ty ≤ 65535 ∧ p.l.length ≤ 1000000) :
    Calls Tryd.prog 15 #[v] w (RetPm w .i64 ps) := by
  refine (params_anyN v ps w h ha hl hr).mono ?_
  rintro e w' ⟨A, c, qs, he, h1, h2, h3, h4, h5, _⟩
  exact ⟨A, c, qs, he, h1, h2, h3, h4, h5⟩
end Go.Proofs.YtokkhfjlbnochaaDoor
