/- The contract of zzFits8. No condition. -/
import Derived.Test.YtnlkmcbhhljajaaDoorRaF
namespace Go.Proofs.YtnlkmcbhhljajaaDoor
open Go.RowKit Go.Lib

/-- Messages in memory. -/
def MsgsAt (w : World) (A : Option Addr) (c : Nat) (vs : List Value) (ms : List (List UInt8)) : Prop :=
  vs.length = ms.length ∧ Rd w 1 vs.length (.slice A vs.length c) vs ∧ ∀ (i : Nat) (v : Value) (m : List UInt8), vs[i]? = some v → ms[i]? = some m → Sl w v m

/-- Either answer; nothing changes. -/
def AnyB (w : World) (z : Ending) (w' : World) : Prop := ∃ b, z = .returned (.bool b) ∧ w = w'

set_option maxRecDepth 20000 in
theorem fits8_any (A : Option Addr) (c : Nat) (vs : List Value) (ms : List (List UInt8)) (w : World) (h : MsgsAt w A c vs ms) :
    Calls Tryd.prog 4 #[.slice A vs.length c] w (AnyB w) := by
  obtain ⟨hl, hr, hs⟩ := h
  obtain ⟨n, hn'⟩ : ∃ n, n = vs.length := ⟨_, rfl⟩
  rw [← hn'] at hr ⊢
  obtain ⟨A', c', hv, hnc, hcm, hl0, h0, hc⟩ := hr
  injection hv with e1 e2 e3
  subst e1 e3
  have HC := Lib.hid hc
  have HS := Lib.hid hs
  have Hn := Lib.hid hn'
  have HL := Lib.hid hl
  clear hc hs hn' hl hl0 h0 e2
  unfold maxLen at hcm
  by_cases hbn : 2147483647 < (n : Int)
  · go_enter Tryd.func4, Tryd.ntmps4
    go_wp2
    go_ret
    exact ⟨false, rfl, rfl⟩
  · have hn : n ≤ 2147483647 := by omega
    go_enter Tryd.func4, Tryd.ntmps4
    go_wp2_with fail
    go_loopw [10] (fun i wr => ∃ k : Nat, k ≤ n ∧ i = .int .i64 (k : Int) ∧ wr = w) (fun i _ => n - (intOf i).toNat)
    case atStart => exact ⟨0, Nat.zero_le _, rfl, rfl⟩
    case round =>
      obtain ⟨k, hk, rfl, rfl⟩ := hrel
      by_cases hlt : k < n
      · obtain ⟨g, o, rfl, hg⟩ := HC.out (by omega)
        have hlk : k < vs.length := by have := Hn.out; omega
        have hlm : k < ms.length := by have := HL.out; omega
        have hx : vs[k]? = some vs[k] := List.getElem?_eq_getElem hlk
        have hy : ms[k]? = some ms[k] := List.getElem?_eq_getElem hlm
        generalize vs[k] = x at hx
        generalize ms[k] = m at hy
        have hcx := hg k x hx
        obtain ⟨Am, cm, rfl, _⟩ := HS.out k x m hx hy
        obtain ⟨q, hq⟩ : ∃ q, q = m.length := ⟨_, rfl⟩
        rw [← hq] at hcx
        clear hx hy hg hq
        by_cases hbig : 2147483647 < (q : Int)
        · go_wp2
          go_ret
          exact ⟨false, rfl, rfl⟩
        · go_wp2
          exact ⟨⟨k + 1, by omega, by go_num, by trivial⟩, by simp [intOf]; omega⟩
      · obtain rfl : k = n := by omega
        go_wp2
        go_ret
        exact ⟨true, rfl, rfl⟩
end Go.Proofs.YtnlkmcbhhljajaaDoor
