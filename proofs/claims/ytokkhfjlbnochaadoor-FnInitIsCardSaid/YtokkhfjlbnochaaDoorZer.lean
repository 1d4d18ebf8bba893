/- append(s, make([]T, k)...) onto a row of the call's own, and the reference's Padding and Padded. Conditions: bounds on lengths alone. -/
import Derived.Test.YtokkhfjlbnochaaDoorUnm
import Derived.Lib.AppendZerosOnto
namespace Go.Proofs.YtokkhfjlbnochaaDoor
open Go.RowKit Go.Lib

theorem zero_cells (z : Value) (hz : z.cells = #[z]) (k : Nat) : Builtin.zeroCells z.cells k = (List.replicate k z).toArray := by
  rw [hz]
  apply Array.ext'
  apply List.ext_getElem
  · simp [Builtin.zeroCells]
  · intro i h1 h2
    simp [Builtin.zeroCells, Nat.mod_one]

theorem run_append_zeros_own {P : Program} (w : World) {t tn e ty : TypeId} {z : Value} {bytes : Nat} {kn : IntKind} (hE : ElT P t e z 1 bytes) (hz : z.cells = #[z]) (h1z : z.oneCell' = true) (htn : P.underlying tn = some (.int kn))
    (base : Nat) (v : Value) (n : Nat) (xs : List Value) (hown : w.ownsRow base e 1 v n xs) (kq : IntKind) (k : Nat)
    (h63 : n + k ≤ 1000000000) (hby : (n + k) * bytes ≤ 140737488355328) (hbase : base ≤ w.heap.size) :
    ∃ v' w', (Builtin.append_ #[t, tn] ty #[v, .int kq k]).run P w = .ok v' w' ∧ w'.ownsRow base e 1 v' (n + k) (xs ++ List.replicate k z) ∧ w.grownBy w' v.ownBlock ∧
      (v'.ownBlock = v.ownBlock ∨ v'.ownBlock = some w.heap.size) := by
  obtain ⟨ht, hinfo, hzs, hsz⟩ := hE
  obtain ⟨i, hi, hz', hsize, hbytes⟩ := info_parts hinfo
  have hw : IntKind.i64.wrap (k : Int) = k := by rw [IntKind.wrap_i64]; omega
  have hneg : ¬ ((k : Int) < 0) := by omega
  have hkb : k * bytes ≤ 140737488355328 := Nat.le_trans (Nat.mul_le_mul_right _ (by omega)) hby
  have h48i : ¬ (281474976710656 < (k : Int) * (i.bytes : Int)) := by rw [← Int.natCast_mul, hbytes]; omega
  have hxl : xs.length = n := by simpa using hown.1
  have hlen : (xs ++ List.replicate k z).length = (n + k) * 1 := by simp [hxl]
  have grown : ∀ (old : Nat), old < n + k → ∀ (row : Option Nat),
      (w.drew.alloc (.cells (xs.toArray ++ Builtin.zeroCells z.cells k ++ Builtin.zeroCells z.cells (grownCap w (n + k) old e - (n + k))) e)).ownsRow base e 1
        (.slice (some ⟨w.heap.size, 0, none⟩) (n + k) (grownCap w (n + k) old e)) (n + k) (xs ++ List.replicate k z) ∧
      w.grownBy (w.drew.alloc (.cells (xs.toArray ++ Builtin.zeroCells z.cells k ++ Builtin.zeroCells z.cells (grownCap w (n + k) old e - (n + k))) e)) row := by
    intro old ho row
    have hge := grownCap_ge w (n + k) old e
    have hcm : grownCap w (n + k) old e ≤ maxLen := grownCap_le_maxLen w (n + k) old e (by unfold maxLen; omega)
    refine ⟨⟨hlen, .inr ⟨w.heap.size, _, _, rfl, hbase, heap_alloc_new w.drew _, hge, hcm, ?_, ?_⟩⟩, ⟨rfl, rfl, rfl, by simp, fun k hk _ => Below.heap_alloc w.drew _ k hk⟩⟩
    · simp [zero_cells z hz, hxl]; omega
    · simp only [zero_cells z hz, Array.toList_append]
      rw [← hlen, List.take_left]
  rcases hown.2 with ⟨rfl, rfl⟩ | ⟨g, cap, cur, rfl, hbg, hg, hnc, hcm, hcs, htake⟩
  · have hx : xs = [] := List.eq_nil_of_length_eq_zero hxl
    subst hx
    rcases Nat.eq_zero_or_pos k with rfl | hk
    · refine ⟨.slice none 0 0, w, ?_, World.ownsRow_nil w base e 1, ⟨rfl, rfl, rfl, Nat.le_refl _, fun _ _ _ => rfl⟩, Or.inl rfl⟩
      simp [Builtin.append_, run_underlying ht, run_underlying htn, sizeOf, typeInfo, hi, asInt, asIntOf, show IntKind.i64.wrap 0 = 0 from rfl]
    · have hr := run_append_nil_zeros (P := P) w t tn ty e i z kq kn ht htn hi hz' k hk (by omega) (by omega) (by rw [hbytes]; omega)
      have hgr := grown 0 (by omega) (Value.ownBlock (.slice none 0 0))
      simp only [Nat.zero_add, List.nil_append, Array.empty_append] at hgr ⊢
      exact ⟨_, _, hr, hgr.1, hgr.2, Or.inr rfl⟩
  · by_cases hroom : n + k ≤ cap
    · have hcs' : cur.size = cap := by simpa using hcs
      rcases Nat.eq_zero_or_pos k with rfl | hk
      · refine ⟨_, w, ?_, by simpa using hown, World.grownBy.refl w _, Or.inl rfl⟩
        have hnc' : n ≤ cap := hnc
        simp [Builtin.append_, run_underlying ht, run_underlying htn, sizeOf, typeInfo, hi, asInt, asIntOf, hnc', storeCells, show IntKind.i64.wrap 0 = 0 from rfl]
      · have hst := run_storeCells_at P g n e (List.replicate k z) 0 cur w hg (by simp; omega) (fun u hu => by rw [List.eq_of_mem_replicate hu]; exact h1z)
        simp only [Nat.add_zero, List.length_replicate] at hst
        have hns : ¬ (k = 0) := by omega
        have hrun : (Builtin.append_ #[t, tn] ty #[.slice (some ⟨g, 0, none⟩) n cap, .int kq k]).run P w = .ok (.slice (some ⟨g, 0, none⟩) (n + k) cap) (w.setRow g (cur.toList.take n ++ List.replicate k z ++ cur.toList.drop (n + k)).toArray) := by
          simp [Builtin.append_, run_underlying ht, run_underlying htn, sizeOf, typeInfo, zeroValue, hi, hz', hsize, asInt, asIntOf, hw, hneg, h48i, hns, hroom, zero_cells z hz, Addr.add_lit, hst]
        refine ⟨_, _, hrun, ⟨hlen, .inr ⟨g, cap, _, rfl, hbg, setRow_heap w g cur _ e _ hg, hroom, hcm, ?_, ?_⟩⟩, ⟨rfl, rfl, rfl, by simp, fun k _ hk => setRow_other w g k _ (fun e => hk (by simp [Value.ownBlock, e]))⟩, Or.inl rfl⟩
        · simp; omega
        · have ht' : cur.toList.take n = xs := by simpa using htake
          rw [ht']
          simp only [← hlen]
          exact List.take_left
    · have hk : 0 < k := by omega
      have holds : ∀ j u, xs[j]? = some u → w.drew.cell? ((⟨g, 0, none⟩ : Addr).add j) = some u := hown.cells (g := g) rfl
      have hfo := run_firstCells_some (P := P) w.drew i.size n ⟨g, 0, none⟩ n cap xs (by simpa [hsize] using hown.1) holds
      have hr := run_append_grow_zeros (P := P) w t tn ty e i z kq kn ht htn hi hz' (some ⟨g, 0, none⟩) n cap xs hfo k hk (by omega) (by omega) (by omega) (by rw [hbytes]; omega) (growslice_fits (by omega) (by rw [hbytes]; exact hby))
      have hgr := grown cap (by omega) (Value.ownBlock (.slice (some ⟨g, 0, none⟩) n cap))
      exact ⟨_, _, hr, hgr.1, hgr.2, Or.inr rfl⟩

theorem wpList_append_zeros {P : Program} {w : World} {ops : Array Oper} {rest : List Oper} {o : Oper} {a : Act} {Q : Exit → Act → World → Prop} (hgd : o.guard = none) (s x : Operand) {t tn e : TypeId} {z : Value} {bytes : Nat} {kn : IntKind}
    (ho : o.op = .call { callee := .builtin .append, args := #[s, x], argTypes := #[t, tn] }) (hE : ElT P t e z 1 bytes) (hz : z.cells = #[z]) (h1z : z.oneCell' = true) (htn : P.underlying tn = some (.int kn))
    (base : Nat) (v : Value) (n : Nat) (xs : List Value) (hs : a.eval s = v) (hown : w.ownsRow base e 1 v n xs) (kq : IntKind) (K : Int) (k : Nat) (hx : a.eval x = .int kq K) (hK : K = (k : Int))
    (h63 : n + k ≤ 1000000000) (hby : (n + k) * bytes ≤ 140737488355328) (hbase : base ≤ w.heap.size)
    (h : ∀ v' w', w'.ownsRow base e 1 v' (n + k) (xs ++ List.replicate k z) → w.grownBy w' v.ownBlock → wpList P ops Q rest (a.put o.dst v') w') : wpList P ops Q (o :: rest) a w := by
  subst hK
  obtain ⟨v', w', hrun, h2, h3, _⟩ := run_append_zeros_own (P := P) w (ty := o.type) hE hz h1z htn base v n xs hown kq k h63 hby hbase
  exact wpList_append_run _ hgd s x t tn ho v _ hs hx v' w' hrun (h v' w' h2 h3)

theorem padding_any (n : Int) (w : World) (h0 : 0 ≤ n) (h1 : n ≤ 1000000000) :
    Calls Tryd.prog 35 #[.int .i64 n] w fun e w' => e = .returned (.int .i64 ((4 - n % 4) % 4)) ∧ w = w' := by
  go_enter Tryd.func35, Tryd.ntmps35
  go_wp2
  go_ret
  exact ⟨rfl, rfl⟩

theorem padded_any (v : Value) (l : List UInt8) (w : World) (h : Sl w v l) (hl : l.length ≤ 100000000) :
    Calls Tryd.prog 28 #[v] w (RetSl w (padded l)) := by
  have H := Lib.hid h
  obtain ⟨A, c, rfl, hnc, hcm, hl0, h0, hc⟩ := h
  clear hc h0 hl0 hcm hnc
  go_enter Tryd.func28, Tryd.ntmps28
  have hown := World.ownsRow_made w #[] 0 (Nat.le_refl _) (Nat.zero_le _) (e := 5) (size := 1) rfl
  go_wp2_with (at_builtin; refine wpList_append_rd _ rfl (.tmp 3) (.tmp 4) rfl bT w.heap.size _ 0 [] rfl hown _ l.length (bvs l) rfl (H.out.alloc _) (bvs_one l) ?c1 ?c2 ?c3 ?_)
  case c1 => unfold maxLen; omega
  case c2 => omega
  case c3 => simp
  intro v1 w1 hown1 hg1 hat
  have hb1 : Below w.heap.size w w1 := ((Below.refl _ _).alloc (Nat.le_refl _) (.cells #[] 5)).grown hg1 (by simp) (by simp [Value.ownBlock])
  have Hown1 := Lib.hid hown1
  have Hb1 := Lib.hid hb1
  have Hat := Lib.hid hat
  clear hown hown1 hg1 hat hb1
  go_wp2_with fail
  refine (padding_any _ _ (by omega) (by omega)).mono ?_
  rintro e w2 ⟨rfl, rfl⟩
  have hown1 : w1.ownsRow w.heap.size 5 1 v1 l.length (bvs l) := by simpa using Hown1.out
  go_wp2_with (at_builtin; refine wpList_append_zeros rfl (.tmp 5) (.tmp 8) rfl bT rfl rfl Tryd.underlying3 w.heap.size _ l.length (bvs l) rfl hown1 _ _ (padN l.length) rfl ?d1 ?d2 ?d3 ?d4 ?_)
  case d1 => unfold padN; omega
  case d2 => have := padN_lt l.length; omega
  case d3 => have := padN_lt l.length; omega
  case d4 => exact Hb1.out.size
  intro v2 w2 hown2 hg2
  have hb2 : Below w.heap.size w w2 := Hb1.out.grown hg2 Hb1.out.size (fun k hk => (hown1.lt k hk).1)
  have Hown2 := Lib.hid hown2
  have Hb2 := Lib.hid hb2
  clear hown1 hown2 hg2 hb2
  go_wp2
  go_ret
  have hf : w2.ownsRow w.heap.size 5 1 v2 (padded l).length (bvs (padded l)) := by
    have := Hown2.out
    simpa [padded, bvs_append, bvs_zero] using this
  exact RetSl.mk (Sl.of_own hf) Hb2.out
end Go.Proofs.YtokkhfjlbnochaaDoor
