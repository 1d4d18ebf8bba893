/- The contracts of Numbers and of impl.Received. Conditions: the numbers are 1 .. 1000; at most 1000 of them. -/
import Derived.Test.YtbmnpadpjbcljaaDoorRvW
namespace Go.Proofs.YtbmnpadpjbcljaaDoor
open Go.RowKit Go.Lib

/-- Numbers as ints. -/
def ics (L : List Nat) : List Value := L.map fun (d : Nat) => .int .i64 (d : Int)
theorem dcs_one (first : Nat) (L : List Nat) : ∀ u ∈ dcs first L, u.oneCell' = true := by
  intro u hu
  obtain ⟨p, _, rfl⟩ := List.mem_map.1 hu
  rfl
theorem num_val (first x : Nat) : ((first : Int) + (x : Int)) % 4294967296 = (tsnOf first x : Nat) := by
  unfold tsnOf
  omega

set_option maxRecDepth 20000 in
theorem numbers_any (first : Nat) (l : List Nat) (v : Value) (w : World) (hf : first < 4294967296) (h : Rd w 1 l.length v (ics l)) (hl : l.length ≤ 1000) (h1 : ∀ x ∈ l, 1 ≤ x ∧ x ≤ 1000) :
    Calls Tryd.prog 6 #[.int .u32 (first : Int), v] w (RetRd w 1 l.length (dcs first l)) := by
  obtain ⟨n, hn⟩ : ∃ n, n = l.length := ⟨_, rfl⟩
  rw [← hn] at h hl ⊢
  obtain ⟨A, cp, rfl, hnc, hcm, hl0, h0, hc⟩ := h
  have HC := Lib.hid hc
  have Hn := Lib.hid hn
  have H1 := Lib.hid h1
  clear hc h0 hl0 hn h1
  unfold maxLen at hcm
  go_enter Tryd.func6, Tryd.ntmps6
  go_wp2_with fail
  go_loopw [5, 11] (fun v i wr => ∃ k : Nat, k ≤ n ∧ i = .int .i64 k ∧ wr.ownsRow w.heap.size 22 1 v k (dcs first (l.take k)) ∧ Below w.heap.size w wr) (fun _ i _ => n - (intOf i).toNat)
  case atStart => exact ⟨0, Nat.zero_le _, rfl, (Row.new w 22 #[]).own (Nat.le_refl _) rfl (Nat.zero_le _), (Below.refl _ _).alloc (Nat.le_refl _) _⟩
  case round =>
    obtain ⟨k, hk, rfl, hown, hb⟩ := hrel
    by_cases hlt : k < n
    · obtain ⟨g, o, rfl, hg⟩ := HC.out (by omega)
      have hlk : k < l.length := by have := Hn.out; omega
      have hx : l[k]? = some l[k] := List.getElem?_eq_getElem hlk
      obtain ⟨x1, x2⟩ := H1.out _ (List.getElem_mem hlk)
      generalize l[k] = x at hx x1 x2
      have hcx : wr.cell? ⟨g, o + k, none⟩ = some (.int .i64 (x : Int)) := by
        have h1 := hg k (.int .i64 (x : Int)) (by simp [ics, hx])
        exact (hb.cell (World.block_lt_of_cell? w _ h1)).trans h1
      have hbs := hb.size
      have Hx := Lib.hid hx
      have Hown := Lib.hid hown
      have Hg := Lib.hid hg
      have V := Lib.hid (num_val first x)
      clear hx hg hown
      go_wp2_with (at_builtin; rw [V.out]; refine wpList_append_rd _ rfl _ _ rfl uT w.heap.size _ k _ rfl (Hown.out.alloc _) _ 1 [_] rfl (Rd.lit wr 22 [.int .u32 (tsnOf first x : Nat)] 1 rfl (by omega)) ?c1 ?c2 ?c3 ?c4 ?_)
      case c1 => simp [Value.oneCell']
      case c2 => unfold maxLen; omega
      case c3 => omega
      case c4 => rw [World.size_alloc]; omega
      intro v1 w1 hown1 hg1 _
      have hown' : w1.ownsRow w.heap.size 22 1 v1 (k + 1) (dcs first (l.take (k + 1))) := by
        rw [List.take_add_one, Hx.out]
        simp only [Option.toList_some, dcs_snoc]
        exact hown1
      have hb' : Below w.heap.size w w1 := (hb.alloc hbs _).grown hg1 (by rw [World.size_alloc]; omega) (fun j hj => (Hown.out.lt j hj).1)
      clear hown1 hg1 Hown hb
      go_wp2
      go_roundw
      case rel => exact ⟨k + 1, by omega, by go_num, hown', hb'⟩
      case measure => simp [intOf]; omega
    · obtain rfl : k = n := by omega
      go_wp2
      go_ret
      have hn := Hn.out
      refine RetRd.mk (Rd.of_own (e := 22) (base := w.heap.size) ?_) hb
      rw [hn, List.take_length] at hown
      rw [hn]
      exact hown
end Go.Proofs.YtbmnpadpjbcljaaDoor
