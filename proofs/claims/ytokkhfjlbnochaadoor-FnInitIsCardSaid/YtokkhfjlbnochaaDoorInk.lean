/- Parameters of INIT in memory: a ghost list of blocks, and what keeps it; their bytes. No condition. -/
import Derived.Test.YtokkhfjlbnochaaDoorInp
namespace Go.Proofs.YtokkhfjlbnochaaDoor
open Go.RowKit Go.Lib

/-- A parameter: its block, type, value. -/
structure Kp where
  g : Nat
  ty : Nat
  s : Value
  l : List UInt8
def Kp.v (c : Kp) : Value := .iface (kT c.ty) (.pointer (some ⟨c.g, 0, none⟩))
def Kp.d (c : Kp) : Int × List UInt8 := ((c.ty : Int), c.l)
def Kp.at (c : Kp) (w : World) : Prop := ∃ (x0 x1 x2 : Int) (A : Option Addr) (n k : Nat), Row w c.g (kt c.ty) (.int .u16 x0 :: .int .u8 x1 :: .int .i64 x2 :: .slice A n k :: kRest c.ty c.s) ∧ Sl w c.s c.l
def KAll (cs : List Kp) (w : World) : Prop := ∀ c ∈ cs, c.at w

theorem Kp.at.lt {c : Kp} {w : World} (h : c.at w) : c.g < w.heap.size := by
  obtain ⟨x0, x1, x2, A, n, k, hr, hs⟩ := h
  exact hr.lt
theorem Kp.at.farN {c : Kp} {w : World} (h : c.at w) {g : Nat} (hg : w.heap.size ≤ g) : 0 < c.l.length → Far c.s g := by
  obtain ⟨x0, x1, x2, A, n, k, hr, hs⟩ := h
  intro hp
  have hs' := hs
  obtain ⟨A', k', hv, _⟩ := hs'
  rw [hv] at hs ⊢
  exact hs.far hp hg
theorem Kp.at.below {c : Kp} {w w' : World} (h : c.at w) (hb : Below w.heap.size w w') : c.at w' := by
  obtain ⟨x0, x1, x2, A, n, k, hr, hs⟩ := h
  exact ⟨x0, x1, x2, A, n, k, hr.below hb hr.lt, hs.below hb⟩
theorem KAll.below {cs : List Kp} {w w' : World} (h : KAll cs w) (hb : Below w.heap.size w w') : KAll cs w' := fun c hc => (h c hc).below hb

/-- A block that is no parameter's has changed, in which the value does not lie. -/
theorem Kp.at.only {c : Kp} {w w' : World} {g : Nat} (h : c.at w) (hg : w.grownBy w' (some g)) (hne : c.g ≠ g) (hf : 0 < c.l.length → Far c.s g) : c.at w' := by
  obtain ⟨x0, x1, x2, A, n, k, hr, hs⟩ := h
  exact ⟨x0, x1, x2, A, n, k, hr.grown hg (by intro e; injection e with e; exact hne e), hs.only' hg hf⟩
theorem Kp.at.only0 {c : Kp} {w w' : World} {r : Option Nat} (h : c.at w) (hg : w.grownBy w' r) (hr : ∀ j, r = some j → c.g ≠ j ∧ (0 < c.l.length → Far c.s j)) : c.at w' := by
  cases r with
  | none => exact h.below ⟨hg.os, hg.tape, hg.output, hg.size, fun i hi => hg.block i hi (by simp)⟩
  | some j => exact h.only hg (hr j rfl).1 (hr j rfl).2

/-- A parameter's own marshal has changed its block. -/
theorem Kp.at.marshal {c d : Kp} {w w' : World} {y0 y1 y2 : Int} {A2 : Option Addr} {n2 k2 : Nat} (h : c.at w) (hd : d.at w) (hg : w.grownBy w' (some d.g)) (hr' : Row w' d.g (kt d.ty) (.int .u16 y0 :: .int .u8 y1 :: .int .i64 y2 :: .slice A2 n2 k2 :: kRest d.ty d.s)) (hf : 0 < c.l.length → Far c.s d.g) : c.at w' := by
  obtain ⟨x0, x1, x2, A, n, k, hr, hs⟩ := h
  obtain ⟨z0, z1, z2, B, m, j, hr2, hs2⟩ := hd
  by_cases he : c.g = d.g
  · unfold Row at hr hr2
    rw [he] at hr
    rw [hr] at hr2
    injection hr2 with hr2
    injection hr2 with e1 e2
    have e3 := congrArg Array.toList e1
    simp only [List.toList_toArray, List.cons.injEq] at e3
    obtain ⟨_, _, _, _, q⟩ := e3
    refine ⟨y0, y1, y2, A2, n2, k2, ?_, hs.only' hg hf⟩
    rw [he, e2, q]
    exact hr'
  · exact ⟨x0, x1, x2, A, n, k, hr.grown hg (by intro e; injection e with e; exact he e), hs.only' hg hf⟩

/-- Where parameters lie: in blocks of the call's, apart from the chunk's block gc and from all that is newer than U; so do their values, which lie in no parameter's block. -/
def KSide (cs : List Kp) (gc U : Nat) : Prop := ∀ c ∈ cs, OkK c.ty c.l ∧ c.g ≠ gc ∧ c.g < U ∧ (0 < c.l.length → Far c.s gc ∧ (∀ g, U ≤ g → Far c.s g) ∧ ∀ d ∈ cs, Far c.s d.g)

theorem KAll.marshal {cs : List Kp} {gc U : Nat} {d : Kp} {w w' : World} {y0 y1 y2 : Int} {A2 : Option Addr} {n2 k2 : Nat} (h : KAll cs w) (hs : KSide cs gc U) (hd : d ∈ cs) (hg : w.grownBy w' (some d.g)) (hr' : Row w' d.g (kt d.ty) (.int .u16 y0 :: .int .u8 y1 :: .int .i64 y2 :: .slice A2 n2 k2 :: kRest d.ty d.s)) : KAll cs w' :=
  fun c hc => (h c hc).marshal (h d hd) hg hr' (fun hp => ((hs c hc).2.2.2 hp).2.2 d hd)
theorem KAll.chunk {cs : List Kp} {gc U : Nat} {w w' : World} (h : KAll cs w) (hs : KSide cs gc U) (hg : w.grownBy w' (some gc)) : KAll cs w' := fun c hc =>
  (h c hc).only hg (hs c hc).2.1 (fun hp => ((hs c hc).2.2.2 hp).1)
theorem KAll.own {cs : List Kp} {gc U : Nat} {w w' : World} {r : Option Nat} (h : KAll cs w) (hs : KSide cs gc U) (hg : w.grownBy w' r) (hr : ∀ j, r = some j → U ≤ j) : KAll cs w' := fun c hc => (h c hc).only0 hg (fun j hj =>
  ⟨by have := (hs c hc).2.2.1; have := hr j hj; omega, fun hp => ((hs c hc).2.2.2 hp).2.1 j (hr j hj)⟩)

/-! ### Their bytes -/
/-- One parameter of a list: filled up unless it is the last. -/
def kpiece (ds : List (Int × List UInt8)) (k : Nat) : List UInt8 := match ds[k]? with
  | some d => if k + 1 < ds.length then padded (tlv d.1.toNat d.2) else tlv d.1.toNat d.2
  | none => []
/-- The first k parameters, one behind the other. -/
def kpre (ds : List (Int × List UInt8)) : Nat → List UInt8
  | 0 => []
  | k + 1 => kpre ds k ++ kpiece ds k
def kflat (ds : List (Int × List UInt8)) : List UInt8 := kpre ds ds.length
/-- How long the first k are, all filled up. -/
def klen (ds : List (Int × List UInt8)) : Nat → Nat
  | 0 => 0
  | k + 1 => klen ds k + match ds[k]? with
    | some d => 4 + d.2.length + padN (4 + d.2.length)
    | none => 0

theorem padded_length (l : List UInt8) : (padded l).length = l.length + padN l.length := by simp [padded]
theorem kpiece_mid {ds : List (Int × List UInt8)} {k : Nat} {d : Int × List UInt8} (h : ds[k]? = some d) (hk : k + 1 < ds.length) : kpiece ds k = padded (tlv d.1.toNat d.2) := by simp [kpiece, h, hk]
theorem kpiece_last {ds : List (Int × List UInt8)} {k : Nat} {d : Int × List UInt8} (h : ds[k]? = some d) (hk : ¬ k + 1 < ds.length) : kpiece ds k = tlv d.1.toNat d.2 := by simp [kpiece, h, hk]
theorem kpiece_split {ds : List (Int × List UInt8)} {k : Nat} {d : Int × List UInt8} (h : ds[k]? = some d) : ∃ r, kpiece ds k = tlv d.1.toNat d.2 ++ r := by
  by_cases hk : k + 1 < ds.length
  · exact ⟨_, kpiece_mid h hk⟩
  · exact ⟨[], by rw [kpiece_last h hk, List.append_nil]⟩
theorem klen_succ {ds : List (Int × List UInt8)} {k : Nat} {d : Int × List UInt8} (h : ds[k]? = some d) : klen ds (k + 1) = klen ds k + (4 + d.2.length + padN (4 + d.2.length)) := by simp [klen, h]
theorem kpre_prefix (ds : List (Int × List UInt8)) (k m : Nat) : ∃ r, kpre ds (k + m) = kpre ds k ++ r := by
  induction m with
  | zero => exact ⟨[], by simp⟩
  | succ m ih =>
    obtain ⟨r, hr⟩ := ih
    exact ⟨r ++ kpiece ds (k + m), by rw [← Nat.add_assoc, kpre, hr, List.append_assoc]⟩
theorem kflat_split {ds : List (Int × List UInt8)} {k : Nat} {d : Int × List UInt8} (h : ds[k]? = some d) : ∃ r, kflat ds = kpre ds k ++ (tlv d.1.toNat d.2 ++ r) := by
  have hk : k < ds.length := (List.getElem?_eq_some_iff.1 h).1
  obtain ⟨r, hr⟩ := kpre_prefix ds (k + 1) (ds.length - (k + 1))
  obtain ⟨q, hq⟩ := kpiece_split h
  refine ⟨q ++ r, ?_⟩
  rw [kflat, show ds.length = k + 1 + (ds.length - (k + 1)) by omega, hr, kpre, hq]
  simp
theorem kpre_length {ds : List (Int × List UInt8)} {k : Nat} (hk : k < ds.length) : (kpre ds k).length = klen ds k := by
  induction k with
  | zero => rfl
  | succ k ih =>
    obtain ⟨d, hx⟩ : ∃ d, ds[k]? = some d := ⟨_, List.getElem?_eq_getElem (by omega)⟩
    rw [kpre, List.length_append, ih (by omega), kpiece_mid hx (by omega), klen_succ hx, padded_length, tlv_length]
theorem kpre_le (ds : List (Int × List UInt8)) (k : Nat) (hk : k ≤ ds.length) : (kpre ds k).length ≤ klen ds k ∧ klen ds k ≤ (kpre ds k).length + 3 := by
  rcases Nat.lt_or_ge k ds.length with h | h
  · rw [kpre_length h]; omega
  · obtain rfl : k = ds.length := by omega
    rcases Nat.eq_zero_or_pos ds.length with h0 | h0
    · rw [h0]; simp [kpre, klen]
    · obtain ⟨m, hm⟩ : ∃ m, ds.length = m + 1 := ⟨ds.length - 1, by omega⟩
      obtain ⟨d, hx⟩ : ∃ d, ds[m]? = some d := ⟨_, List.getElem?_eq_getElem (by omega)⟩
      have := padN_lt (4 + d.2.length)
      rw [hm, kpre, List.length_append, kpre_length (by omega), kpiece_last hx (by omega), klen_succ hx, tlv_length]
      omega
theorem kflat_left {ds : List (Int × List UInt8)} {k : Nat} (hk : k < ds.length) (hlast : ∀ d, ds[ds.length - 1]? = some d → 0 < d.2.length) : klen ds k + 5 ≤ (kflat ds).length := by
  obtain ⟨m, hm⟩ : ∃ m, ds.length = m + 1 := ⟨ds.length - 1, by omega⟩
  obtain ⟨d, hx⟩ : ∃ d, ds[m]? = some d := ⟨_, List.getElem?_eq_getElem (by omega)⟩
  have h1 := hlast d (by rw [hm]; exact hx)
  have e : (kflat ds).length = klen ds m + (4 + d.2.length) := by
    rw [kflat, hm, kpre, List.length_append, kpre_length (by omega), kpiece_last hx (by omega), tlv_length]
  have mono : ∀ i j, klen ds i ≤ klen ds (i + j) := by
    intro i j
    induction j with
    | zero => exact Nat.le_refl _
    | succ j ih => rw [← Nat.add_assoc, klen]; omega
  have := mono k (m - k)
  rw [show k + (m - k) = m by omega] at this
  omega
theorem kpre_step_le {ds : List (Int × List UInt8)} {k : Nat} {d : Int × List UInt8} (h : ds[k]? = some d) : (kpre ds k).length + (4 + d.2.length) ≤ (kflat ds).length := by
  obtain ⟨r, hr⟩ := kflat_split h
  rw [hr]
  simp [tlv_length]
theorem klen_le (ds : List (Int × List UInt8)) (m : Nat) (h : ∀ d ∈ ds, d.2.length ≤ m) (k : Nat) : klen ds k ≤ k * (m + 7) := by
  induction k with
  | zero => simp [klen]
  | succ k ih =>
    rw [klen, Nat.add_mul]
    cases hd : ds[k]? with
    | none => simp only; omega
    | some d =>
      have h1 := h d (List.mem_of_getElem? hd)
      have h2 := padN_lt (4 + d.2.length)
      simp only
      omega
end Go.Proofs.YtokkhfjlbnochaaDoor
