/- The contract of isComplete. Conditions: the numbers lie near each other. -/
import Derived.Test.YtnlkmcbhhljajaaDoorRaH
namespace Go.Proofs.YtnlkmcbhhljajaaDoor
open Go.RowKit Go.Lib

/-- A set that is whole. -/
def Whole (cs : List Ck) : Prop :=
  cs ≠ [] ∧ (∀ c, cs[0]? = some c → c.2.b = true) ∧ (∀ c, cs[cs.length - 1]? = some c → c.2.e = true) ∧ ∀ j c d, cs[j]? = some c → cs[j + 1]? = some d → d.2.t = c.2.t + 1

/-- What isComplete tells. -/
def Told (cs : List Ck) (w : World) (z : Ending) (w' : World) : Prop := ∃ b, z = .returned (.bool b) ∧ w = w' ∧ (Whole cs → b = true)

set_option maxRecDepth 20000 in
set_option maxHeartbeats 800000 in
theorem iscomplete_any (first st B : Nat) (w0 : World) (s : MSet) (w : World) (h : SetAt first st B w0 w s) (hl : s.cs.length ≤ 1000000) (hne : s.cs ≠ []) (hb : ∀ c ∈ s.cs, c.2.t ≤ 5000) :
    Calls Tryd.prog 20 #[.pointer (some ⟨s.sb, 0, none⟩)] w (Told s.cs w) := by
  obtain ⟨k0, k1, k2⟩ := Row.three h.row
  obtain ⟨n, hn⟩ : ∃ n, n = s.cs.length := ⟨_, rfl⟩
  have hr := Rd.of_own h.own
  rw [← hn] at hr hl
  obtain ⟨A, cp, hv, hnc, hcm, hl0, h0, hc⟩ := hr
  have hpos : 0 < n := by rw [hn]; exact List.length_pos_iff.2 hne
  obtain ⟨g1, o, rfl, hg⟩ := hc (by omega)
  have hk := h.cks
  rw [hv] at k2
  generalize s.sb = g at k0 k1 k2 ⊢
  generalize s.cs = cs at hg hn hk hb ⊢
  have cell : ∀ j x, cs[j]? = some x → w.cell? ⟨g1, o + j, none⟩ = some (.pointer (some ⟨x.1, 0, none⟩)) ∧ ChunkAt first st w0 w x ∧ x.2.t ≤ 5000 := fun j x hx =>
    ⟨hg j (ckp x) (by simp [hx]), hk x (List.mem_of_getElem? hx), hb x (List.mem_of_getElem? hx)⟩
  have Hn := Lib.hid hn
  have HC := Lib.hid cell
  have hx0 : cs[0]? = some (cs[0]'(by omega)) := List.getElem?_eq_getElem (by omega)
  have hxl : cs[n - 1]? = some (cs[n - 1]'(by omega)) := List.getElem?_eq_getElem (by omega)
  generalize cs[0]'(by omega) = x0 at hx0
  generalize cs[n - 1]'(by omega) = xl at hxl
  obtain ⟨c0, d0, _⟩ := cell 0 x0 hx0
  obtain ⟨cl, dl, _⟩ := cell (n - 1) xl hxl
  obtain ⟨_, a0, _⟩ := d0.tsn
  obtain ⟨_, _, al⟩ := dl.tsn
  have H0 := Lib.hid hx0
  have HL := Lib.hid hxl
  rw [Nat.add_zero] at c0
  clear h hc h0 hl0 hn hv hb k0 k1 hg hk cell d0 dl hx0 hxl
  unfold maxLen at hcm
  obtain ⟨b0, hb0⟩ : ∃ b0, b0 = x0.2.b := ⟨_, rfl⟩
  obtain ⟨el, hel⟩ : ∃ el, el = xl.2.e := ⟨_, rfl⟩
  rw [← hb0] at a0
  rw [← hel] at al
  have HB0 := Lib.hid hb0
  have HEL := Lib.hid hel
  generalize x0.1 = g0 at c0 a0
  generalize xl.1 = gl at cl al
  clear hb0 hel
  have hn1 : ((n : Int) == 0) = false := by rw [beq_eq_false_iff_ne]; omega
  have hlt1 : n - 1 < n := by omega
  cases b0 with
  | false =>
    go_enter Tryd.func20, Tryd.ntmps20
    go_wp2
    go_ret
    exact ⟨false, rfl, rfl, fun hw => by have := hw.2.1 _ H0.out; rw [← HB0.out] at this; cases this⟩
  | true =>
    cases el with
    | false =>
      go_enter Tryd.func20, Tryd.ntmps20
      go_wp2
      go_ret
      exact ⟨false, rfl, rfl, fun hw => by have := hw.2.2.1 xl (by rw [← Hn.out]; exact HL.out); rw [← HEL.out] at this; cases this⟩
    | true =>
      go_enter Tryd.func20, Tryd.ntmps20
      go_wp2_with fail
      go_loopw [4, 41] (fun l i wr => ∃ j p : Nat, j ≤ n ∧ i = .int .i64 (j : Int) ∧ l = .int .u32 (p : Int) ∧ wr = w ∧ p < 4294967296 ∧ Hid ((j = 0 ∨ ∃ c, cs[j - 1]? = some c ∧ p = tsnOf first c.2.t) ∧ ∀ q c d, q + 1 < j → cs[q]? = some c → cs[q + 1]? = some d → d.2.t = c.2.t + 1)) (fun _ i _ => n - (intOf i).toNat)
      case atStart => exact ⟨0, 0, Nat.zero_le _, rfl, rfl, rfl, by omega, Lib.hid ⟨.inl rfl, fun q c d h => by omega⟩⟩
      case round =>
        clear c0 a0 cl al
        obtain ⟨j, p, hj, rfl, rfl, rfl, hp, HI⟩ := hrel
        by_cases hlt : j < n
        · have hlk : j < cs.length := by have := Hn.out; omega
          have hx : cs[j]? = some cs[j] := List.getElem?_eq_getElem hlk
          generalize cs[j] = x at hx
          obtain ⟨cx, dx, bx⟩ := HC.out j x hx
          obtain ⟨t1, _, _⟩ := dx.tsn
          have htl := tsnOf_lt first x.2.t
          have Hx := Lib.hid hx
          have HX := Lib.hid (rfl : tsnOf first x.2.t = tsnOf first x.2.t)
          obtain ⟨a, ha⟩ : ∃ a, a = tsnOf first x.2.t := ⟨_, rfl⟩
          rw [← ha] at t1 htl
          have Ha := Lib.hid ha
          generalize x.1 = gx at t1 cx
          clear hx dx ha
          by_cases hj0 : j = 0
          · subst hj0
            rw [Nat.add_zero] at cx
            go_wp2
            exact ⟨⟨1, a, by omega, by go_num, rfl, by trivial, htl, Lib.hid ⟨.inr ⟨x, Hx.out, Ha.out⟩, fun q c d h => by omega⟩⟩, by simp [intOf]; omega⟩
          · have hjp : 0 < j := by omega
            have hpos' : ((j : Int) > 0) := by omega
            obtain ⟨y, hy, hpy⟩ : ∃ c, cs[j - 1]? = some c ∧ p = tsnOf first c.2.t := by
              rcases HI.out.1 with h | h
              · omega
              · exact h
            have by1 := (HC.out _ y hy).2.2
            have hnx : IntKind.u32.wrap ((p : Int) + 1) = (tsnOf first (y.2.t + 1) : Nat) := by rw [hpy]; exact tsn_next
            have HY := Lib.hid hy
            have HPY := Lib.hid hpy
            clear hy hpy
            obtain ⟨b', hb'⟩ : ∃ b', b' = tsnOf first (y.2.t + 1) := ⟨_, rfl⟩
            rw [← hb'] at hnx
            have HB' := Lib.hid hb'
            clear hb'
            by_cases heq : a = b'
            · subst heq
              have hnn : ((a : Int) != (a : Int)) = false := by simp
              go_wp2
              refine ⟨⟨j + 1, a, by omega, by go_num, rfl, by trivial, htl, Lib.hid ⟨.inr ⟨x, by simpa using Hx.out, Ha.out⟩, fun q c d h hc hd => ?_⟩⟩, by simp [intOf]; omega⟩
              by_cases hq : q + 1 < j
              · exact HI.out.2 q c d hq hc hd
              · obtain rfl : q = j - 1 := by omega
                rw [show j - 1 + 1 = j by omega, Hx.out] at hd
                rw [HY.out] at hc
                injection hc with hc
                injection hd with hd
                subst hc hd
                exact tsn_eq (first := first) (by omega) (by omega) (by rw [← Ha.out, HB'.out])
            · have hnn : ((a : Int) != (b' : Int)) = true := by
                rw [bne_iff_ne]
                omega
              go_wp2
              go_ret
              refine ⟨false, rfl, rfl, fun hw => ?_⟩
              have := hw.2.2.2 (j - 1) y x HY.out (by rw [show j - 1 + 1 = j by omega]; exact Hx.out)
              exact absurd (by rw [Ha.out, HB'.out, this] : a = b') heq
        · obtain rfl : j = n := by omega
          go_wp2
          go_ret
          exact ⟨true, rfl, rfl, fun _ => rfl⟩
end Go.Proofs.YtnlkmcbhhljajaaDoor
