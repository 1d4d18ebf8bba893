/- Contracts of zzFits5, IsInit, the reference's Init. Conditions: the numbers fit (Init). -/
import Derived.Test.YtokkhfjlbnochaaDoorIns
import Derived.Test.YtokkhfjlbnochaaDoorPmf
namespace Go.Proofs.YtokkhfjlbnochaaDoor
open Go.RowKit Go.Lib

theorem Row.seven {w : World} {g : Nat} {t : TypeId} {a b c d e f h : Value} (r : Row w g t [a, b, c, d, e, f, h]) : w.cell? ⟨g, 0, none⟩ = some a ∧ w.cell? ⟨g, 1, none⟩ = some b ∧ w.cell? ⟨g, 2, none⟩ = some c ∧ w.cell? ⟨g, 3, none⟩ = some d ∧ w.cell? ⟨g, 4, none⟩ = some e ∧ w.cell? ⟨g, 5, none⟩ = some f ∧ w.cell? ⟨g, 6, none⟩ = some h := by
  refine ⟨?_, ?_, ?_, ?_, ?_, ?_, ?_⟩ <;> rw [r.cell] <;> rfl

theorem fits5_any (ack : Bool) (tag win : Nat) (out inn : Int) (tsn : Nat) (A : Option Addr) (n c : Nat) (ps : List Pm) (w : World) (h : Rd w 2 n (.slice A n c) (pms .i64 ps)) (hn : n = ps.length) (ha : PAll ps w) :
    Calls Tryd.prog 4 #[.agg #[.bool ack, .int .u32 (tag : Int), .int .u32 (win : Int), .int .i64 out, .int .i64 inn, .int .u32 (tsn : Int), .slice A n c]] w (FitsEnd w n ps) := by
  have H := Lib.hid (h.alloc (.cells #[.bool ack, .int .u32 (tag : Int), .int .u32 (win : Int), .int .i64 out, .int .i64 inn, .int .u32 (tsn : Int), .slice A n c] 25))
  have HA := Lib.hid (ha.alloc (.cells #[.bool ack, .int .u32 (tag : Int), .int .u32 (win : Int), .int .i64 out, .int .i64 inn, .int .u32 (tsn : Int), .slice A n c] 25))
  have Hn := Lib.hid hn
  have hb0 := (Below.refl w.heap.size w).alloc (Nat.le_refl _) (.cells #[.bool ack, .int .u32 (tag : Int), .int .u32 (win : Int), .int .i64 out, .int .i64 inn, .int .u32 (tsn : Int), .slice A n c] 25)
  have Hb0 := Lib.hid hb0
  clear h ha hn hb0
  go_enter Tryd.func4, Tryd.ntmps4
  go_wp2_with fail
  refine (fits6_any A n c ps _ H.out Hn.out HA.out).mono ?_
  rintro e w2 ⟨b, rfl, hbt, hb2⟩
  have HBT := Lib.hid hbt
  have HB2 := Lib.hid (below_step Hb0.out Hb0.out.size hb2)
  clear hbt hb2
  cases b
  all_goals
    go_wp2
    go_ret
    exact ⟨_, rfl, (fun h => by first | rfl | exact HBT.out h | exact (HBT.out h).elim), HB2.out⟩

/-- A parameter of INIT that the reference allows. -/
def OkQ (p : Pm) : Prop := (p.ty = 7 ∨ (p.ty = 49152 ∧ p.l.length = 0)) ∧ p.l.length ≤ 1024
/-- INIT that the reference allows. -/
def OkI (tag win : Nat) (out inn : Int) (ps : List Pm) : Prop := tag ≠ 0 ∧ 1500 ≤ win ∧ 1 ≤ out ∧ out ≤ 65535 ∧ 1 ≤ inn ∧ inn ≤ 65535 ∧ ps.length ≤ 20 ∧ (∀ p, ps[ps.length - 1]? = some p → 0 < p.l.length) ∧ ∀ p ∈ ps, OkQ p

/-- Whether INIT is right: what is said of it where it is. -/
def IsEnd (w : World) (Q : Prop) (z : Ending) (w' : World) : Prop := ∃ b, z = .returned (.bool b) ∧ (b = true → Q) ∧ Below w.heap.size w w'

set_option maxRecDepth 20000 in
set_option maxHeartbeats 1600000 in
theorem isInit_any (ack : Bool) (tag win : Nat) (out inn : Int) (tsn : Nat) (A : Option Addr) (n c : Nat) (ps : List Pm) (w : World) (h : Rd w 2 n (.slice A n c) (pms .i64 ps)) (hn : n = ps.length) (ha : PAll ps w) :
    Calls Tryd.prog 5 #[.agg #[.bool ack, .int .u32 (tag : Int), .int .u32 (win : Int), .int .i64 out, .int .i64 inn, .int .u32 (tsn : Int), .slice A n c]] w (IsEnd w (OkI tag win out inn ps)) := by
  have Hn := Lib.hid hn
  have HA := Lib.hid ha
  obtain ⟨A', c', hv, hnc, hcm, hl0, h0, hc⟩ := h
  injection hv with e1 e2 e3
  subst e1 e3
  have HC := Lib.hid hc
  clear hn ha hl0 h0 hc e2
  unfold maxLen at hcm
  by_cases h1 : (tag : Int) = 0
  · go_enter Tryd.func5, Tryd.ntmps5
    go_wp2
    go_ret
    exact ⟨false, rfl, (fun h => by cases h), (Below.refl _ _).alloc (Nat.le_refl _) _⟩
  by_cases h2 : (win : Int) < 1500
  · go_enter Tryd.func5, Tryd.ntmps5
    go_wp2
    go_ret
    exact ⟨false, rfl, (fun h => by cases h), (Below.refl _ _).alloc (Nat.le_refl _) _⟩
  by_cases h3 : out < 1
  · go_enter Tryd.func5, Tryd.ntmps5
    go_wp2
    go_ret
    exact ⟨false, rfl, (fun h => by cases h), (Below.refl _ _).alloc (Nat.le_refl _) _⟩
  by_cases h4 : out > 65535
  · go_enter Tryd.func5, Tryd.ntmps5
    go_wp2
    go_ret
    exact ⟨false, rfl, (fun h => by cases h), (Below.refl _ _).alloc (Nat.le_refl _) _⟩
  by_cases h5 : inn < 1
  · go_enter Tryd.func5, Tryd.ntmps5
    go_wp2
    go_ret
    exact ⟨false, rfl, (fun h => by cases h), (Below.refl _ _).alloc (Nat.le_refl _) _⟩
  by_cases h6 : inn > 65535
  · go_enter Tryd.func5, Tryd.ntmps5
    go_wp2
    go_ret
    exact ⟨false, rfl, (fun h => by cases h), (Below.refl _ _).alloc (Nat.le_refl _) _⟩
  by_cases h7 : (n : Int) > 20
  · go_enter Tryd.func5, Tryd.ntmps5
    go_wp2
    go_ret
    exact ⟨false, rfl, (fun h => by cases h), (Below.refl _ _).alloc (Nat.le_refl _) _⟩
  have HK : Hid ((∀ p, ps[ps.length - 1]? = some p → 0 < p.l.length) → (∀ p ∈ ps, OkQ p) → OkI tag win out inn ps) := Lib.hid (fun ha hb => ⟨by omega, by omega, by omega, by omega, by omega, by omega, by have := Hn.out; omega, ha, hb⟩)
  by_cases hn0 : (n : Int) > 0
  · have hlk : n - 1 < ps.length := by have := Hn.out; omega
    have hx : ps[n - 1]? = some ps[n - 1] := List.getElem?_eq_getElem hlk
    have hs := HA.out _ (List.getElem_mem hlk)
    generalize ps[n - 1] = x at hx hs
    obtain ⟨g, o, rfl, hg⟩ := HC.out (by omega)
    have hba := (Below.refl w.heap.size w).alloc (Nat.le_refl _) (.cells #[.bool ack, .int .u32 (tag : Int), .int .u32 (win : Int), .int .i64 out, .int .i64 inn, .int .u32 (tsn : Int), .slice (some ⟨g, o, none⟩) n c] 25)
    obtain ⟨hc1, hc2⟩ := pm_cells hg hba hx
    obtain ⟨tx, sx, lx⟩ := x
    obtain ⟨As, cs, hsx, _⟩ := hs
    simp only at hsx hc1 hc2
    subst hsx
    obtain ⟨nx, hnx⟩ : ∃ nx, nx = lx.length := ⟨_, rfl⟩
    rw [← hnx] at hc2
    have hw1 : IntKind.i64.wrap ((n : Int) - 1) = ((n - 1 : Nat) : Int) := by simp [IntKind.wrap, IntKind.bits, IntKind.signed]; omega
    have hi1 : ((n - 1 : Nat) : Int) < (n : Int) := by omega
    have HX := Lib.hid hx
    have Hnx := Lib.hid hnx
    clear hx hg hba hnx hlk
    by_cases hz : (nx : Int) = 0
    · go_enter Tryd.func5, Tryd.ntmps5
      go_wp2
      go_ret
      exact ⟨false, rfl, (fun h => by cases h), (Below.refl _ _).alloc (Nat.le_refl _) _⟩
    · have hbt : ((tag : Int) == 0) = false := by simpa using h1
      have hbn : ((nx : Int) == 0) = false := by simpa using hz
      replace HK : Hid ((∀ p ∈ ps, OkQ p) → OkI tag win out inn ps) := Lib.hid (HK.out (fun p hp => by
        rw [← Hn.out, HX.out] at hp
        injection hp with hp
        subst hp
        have := Hnx.out
        simp only
        omega))
      clear HX Hnx
      go_enter Tryd.func5, Tryd.ntmps5
      go_wp2
      clear hc1 hc2 hw1 hi1 hbt hbn
      go_loopw [61] (fun i wr => ∃ k : Nat, k ≤ n ∧ i = .int .i64 k ∧ Hid (∀ p ∈ ps.take k, OkQ p) ∧ Hid (Below w.heap.size w wr)) (fun i _ => n - (intOf i).toNat)
      case atStart => exact ⟨0, Nat.zero_le _, rfl, Lib.hid (fun _ h => by simp at h), Lib.hid ((Below.refl _ _).alloc (Nat.le_refl _) _)⟩
      case round =>
        obtain ⟨k, hk, rfl, HQ, Hb⟩ := hrel
        have hbs := Hb.out.size
        by_cases hlt : k < n
        · obtain ⟨g1, o1, e, hg⟩ := HC.out (by omega)
          obtain ⟨rfl, rfl⟩ : g = g1 ∧ o = o1 := by injection e with e; injection e with e1 e2; exact ⟨e1, e2⟩
          clear e
          have hlk : k < ps.length := by have := Hn.out; omega
          have hx : ps[k]? = some ps[k] := List.getElem?_eq_getElem hlk
          have hs := HA.out _ (List.getElem_mem hlk)
          generalize ps[k] = x at hx hs
          obtain ⟨hc1, hc2⟩ := pm_cells hg Hb.out hx
          have HQ2 : Hid (OkQ x → ∀ p ∈ ps.take (k + 1), OkQ p) := Lib.hid (fun hq p hp => by
            rw [List.take_add_one, hx] at hp
            rcases List.mem_append.1 hp with hp | hp
            · exact HQ.out p hp
            · simp at hp; rw [hp]; exact hq)
          obtain ⟨tx, sx, lx⟩ := x
          obtain ⟨As, cs, hsx, _⟩ := hs
          simp only at hsx hc1 hc2
          subst hsx
          unfold OkQ at HQ2
          simp only at HQ2
          obtain ⟨nx, hnx⟩ : ∃ nx, nx = lx.length := ⟨_, rfl⟩
          rw [← hnx] at hc2 HQ2
          have HQ3 := Lib.hid HQ2.out
          clear hx hg HQ hnx HQ2
          by_cases h12 : tx = 7
          · subst h12
            by_cases hl : (nx : Int) > 1024
            · go_wp2
              go_ret
              exact ⟨false, rfl, (fun h => by cases h), Hb.out.alloc hbs _⟩
            · go_wp2
              go_roundw
              case rel => exact ⟨k + 1, by omega, by go_num, Lib.hid (HQ3.out ⟨.inl rfl, by omega⟩), Lib.hid (Hb.out.alloc hbs _)⟩
              case measure => simp [intOf]; omega
          · by_cases h13 : tx = 49152
            · subst h13
              by_cases hl : (nx : Int) > 1024
              · go_wp2
                go_ret
                exact ⟨false, rfl, (fun h => by cases h), Hb.out.alloc hbs _⟩
              · by_cases hl0 : (nx : Int) > 0
                · go_wp2
                  go_ret
                  exact ⟨false, rfl, (fun h => by cases h), Hb.out.alloc hbs _⟩
                · go_wp2
                  go_roundw
                  case rel => exact ⟨k + 1, by omega, by go_num, Lib.hid (HQ3.out ⟨.inr ⟨rfl, by omega⟩, by omega⟩), Lib.hid (Hb.out.alloc hbs _)⟩
                  case measure => simp [intOf]; omega
            · go_wp2
              go_ret
              exact ⟨false, rfl, (fun h => by cases h), Hb.out.alloc hbs _⟩
        · obtain rfl : k = n := by omega
          have HQQ := HQ
          go_wp2
          go_ret
          exact ⟨true, rfl, fun _ => HK.out (fun p hp => HQQ.out p (by rw [List.take_of_length_le (by have := Hn.out; omega)]; exact hp)), Hb.out⟩
  · replace HK : Hid ((∀ p ∈ ps, OkQ p) → OkI tag win out inn ps) := Lib.hid (HK.out (fun p hp => by
      have h1 := (List.getElem?_eq_some_iff.1 hp).1
      have := Hn.out
      omega))
    have hbt : ((tag : Int) == 0) = false := by simpa using h1
    go_enter Tryd.func5, Tryd.ntmps5
    go_wp2
    go_loopw [61] (fun i wr => ∃ k : Nat, k ≤ n ∧ i = .int .i64 k ∧ Hid (∀ p ∈ ps.take k, OkQ p) ∧ Hid (Below w.heap.size w wr)) (fun i _ => n - (intOf i).toNat)
    case atStart => exact ⟨0, Nat.zero_le _, rfl, Lib.hid (fun _ h => by simp at h), Lib.hid ((Below.refl _ _).alloc (Nat.le_refl _) _)⟩
    case round =>
      obtain ⟨k, hk, rfl, HQ, Hb⟩ := hrel
      have hbs := Hb.out.size
      by_cases hlt : k < n
      · omega
      · obtain rfl : k = n := by omega
        have HQQ := HQ
        go_wp2
        go_ret
        exact ⟨true, rfl, fun _ => HK.out (fun p hp => HQQ.out p (by rw [List.take_of_length_le (by have := Hn.out; omega)]; exact hp)), Hb.out⟩
end Go.Proofs.YtokkhfjlbnochaaDoor
