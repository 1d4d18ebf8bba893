/- The queue while messages are read: a law for copy; the state and its steps. No condition. -/
import Derived.Test.YtnlkmcbhhljajaaDoorRaF
import Derived.Laws.CopyOwn
namespace Go.Proofs.YtnlkmcbhhljajaaDoor
open Go.RowKit Go.Lib

theorem grown_setRow (w : World) (g : Nat) (cs : Array Value) : w.grownBy (w.setRow g cs) (some g) :=
  ⟨rfl, rfl, rfl, by simp [World.setRow], fun k _ hne => setRow_other w g k cs (fun e => hne (by rw [e]))⟩

/-- copy into a row that is known whole, from whatever reads as cells. -/
theorem wpList_copy_in {P : Program} {w : World} {ops : Array Oper} {rest : List Oper} {o : Oper} {a : Act} {Q : Exit → Act → World → Prop} (hgd : o.guard = none) (d s : Operand) (dT sT : TypeId)
    (ho : o.op = .call { callee := .builtin .copy, args := #[d, s], argTypes := #[dT, sT] }) (elem : TypeId) (hu : P.underlying dT = some (.slice elem)) (hsz : (P.info? elem).map (·.size) = some 1)
    (g off dLen dCap : Nat) (hd : a.eval d = .slice (some ⟨g, off, none⟩) dLen dCap) (y : Value) (m : Nat) (news : List Value) (hs : a.eval s = y) (hr : Rd w 1 m y news)
    (cur : List Value) (t : TypeId) (hg : Row w g t cur) (hm : m ≤ dLen) (hfit : off + m ≤ cur.length) (h1 : ∀ u ∈ news, u.oneCell' = true)
    (h : ∀ w', Row w' g t (splice cur off news) → w.grownBy w' (some g) → wpList P ops Q rest (a.put o.dst (goInt m)) w') : wpList P ops Q (o :: rest) a w := by
  obtain ⟨A, c, rfl, hn, hc, hl, h0, hcell⟩ := hr
  rw [Nat.mul_one] at hl
  rcases Nat.eq_zero_or_pos m with rfl | hp
  · obtain rfl : news = [] := List.eq_nil_of_length_eq_zero hl
    refine wpList_copy_nothing hgd d s dT sT ho elem hu hsz _ A dLen dCap 0 c hd hs (by simp) ?_
    exact h w (by simpa [splice] using hg) (only_refl _ _)
  · obtain ⟨g', o', rfl, hg'⟩ := hcell (by omega)
    have hmin : news.length = Nat.min m dLen := by rw [hl, show Nat.min m dLen = m from Nat.min_eq_left hm]
    refine wpList_copy_own hgd d s dT sT ho elem hu hsz g off dLen dCap ⟨g', o', none⟩ m c hd hs cur.toArray t hg news hmin (fun j u hj => by rw [Addr.add_lit]; exact hg' j u hj) (by simp [hl]; exact hfit) h1 ?_
    rw [hl]
    refine h _ ?_ (grown_setRow _ _ _)
    have := setRow_heap w g _ (cur.take off ++ (news ++ cur.drop (off + news.length))).toArray t _ hg
    rw [hl] at this
    simpa [Row, splice, hl] using this

/-- The queue while messages are read: j have been. -/
structure RSt (first st B Q : Nat) (w0 w : World) (g0 c0 nx j : Nat) (nb : Int) (Gs : List MSet) : Prop where
  q : ∃ A c, QRow Q st nx (.slice A (Gs.length - j) c) nb w ∧ (j < Gs.length → A = some ⟨g0, j, none⟩ ∧ Gs.length - j ≤ c ∧ c ≤ maxLen)
  own : w.ownsRow B 69 1 (.slice (some ⟨g0, 0, none⟩) Gs.length c0) Gs.length (Gs.map stp)
  sets : ∀ s ∈ Gs, SetAt first st B w0 w s
  below : Below w0.heap.size w0 w
  base : w0.heap.size ≤ B
  size : B ≤ w.heap.size
  hq : w0.heap.size ≤ Q

theorem RSt.of_q {first st B Q : Nat} {w0 w : World} {ov : Value} {nb : Int} {Gs : List MSet} (h : QSt first st B Q w0 w ov nb Gs) (hne : Gs ≠ []) : ∃ g0 c0, RSt first st B Q w0 w g0 c0 0 0 nb Gs := by
  have hl : 0 < Gs.length := List.length_pos_iff.2 hne
  have hov := h.ov
  rcases hov.2 with ⟨_, e⟩ | ⟨g, cap, cur, e, hb, hg, hn, hm, hs, ht⟩
  · omega
  · subst e
    exact ⟨g, cap, ⟨⟨_, _, h.q, fun _ => ⟨rfl, by omega, hm⟩⟩, hov, h.sets, h.below, h.base, h.size, h.hq⟩⟩
theorem RSt.bstep {first st B Q : Nat} {w0 w w' : World} {g0 c0 nx j : Nat} {nb : Int} {Gs : List MSet} (h : RSt first st B Q w0 w g0 c0 nx j nb Gs) (hb : Below w.heap.size w w') : RSt first st B Q w0 w' g0 c0 nx j nb Gs := by
  obtain ⟨A, c, hq, ha⟩ := h.q
  exact ⟨⟨A, c, hq.below hb, ha⟩, own_below h.own hb, fun s hs => (h.sets s hs).below hb, h.below.trans (hb.mono h.below.size), h.base, Nat.le_trans h.size hb.size, h.hq⟩
theorem RSt.drewN {first st B Q : Nat} {w0 w : World} {g0 c0 nx j : Nat} {nb : Int} {Gs : List MSet} (h : RSt first st B Q w0 w g0 c0 nx j nb Gs) (q : Nat) : RSt first st B Q w0 (w.drewN q) g0 c0 nx j nb Gs := h.bstep (below_drewN (Below.refl _ _) q)
/-- A step in a block of bytes of the call's own. -/
theorem RSt.bytes {first st B Q : Nat} {w0 w w' : World} {g0 c0 nx j : Nat} {nb : Int} {Gs : List MSet} {g : Nat} {xs : List Value} (h : RSt first st B Q w0 w g0 c0 nx j nb Gs) (hg : w.grownBy w' (some g)) (hr : Row w g 5 xs) (hw : w0.heap.size ≤ g) : RSt first st B Q w0 w' g0 c0 nx j nb Gs := by
  obtain ⟨A, c, hq, ha⟩ := h.q
  have r := RT.of_row hr
  exact ⟨⟨A, c, hq.step hg r (by decide), ha⟩, h.own.kept hg (r.own h.own (by decide)), fun s hs => (h.sets s hs).step hg r (by decide) (.inl (by decide)) (.inl (by decide)), below_only h.below h.below.size hg hw, h.base, Nat.le_trans h.size hg.size, h.hq⟩
/-- A step in the queue's own block. -/
theorem RSt.qstep {first st B Q : Nat} {w0 w w' : World} {g0 c0 nx nx' j j' : Nat} {nb nb' : Int} {Gs : List MSet} (h : RSt first st B Q w0 w g0 c0 nx j nb Gs) (hg : w.grownBy w' (some Q))
    (hq' : ∃ A c, QRow Q st nx' (.slice A (Gs.length - j') c) nb' w' ∧ (j' < Gs.length → A = some ⟨g0, j', none⟩ ∧ Gs.length - j' ≤ c ∧ c ≤ maxLen)) : RSt first st B Q w0 w' g0 c0 nx' j' nb' Gs := by
  obtain ⟨A, c, hq, ha⟩ := h.q
  have r := hq.rt
  exact ⟨hq', h.own.kept hg (r.own h.own (by decide)), fun s hs => (h.sets s hs).step hg r (by decide) (.inl (by decide)) (.inl (by decide)), below_only h.below h.below.size hg h.hq, h.base, Nat.le_trans h.size hg.size, h.hq⟩
theorem QRow.setNext {Q si next n' : Nat} {ov : Value} {nb : Int} {w : World} (h : QRow Q si next ov nb w) : QRow Q si n' ov nb (w.setCell ⟨Q, 1, none⟩ (.int .u16 (n' : Int))) := by
  obtain ⟨G2, G3, G4, mp, mq, hrow⟩ := h
  exact ⟨G2, G3, G4, mp, mq, hrow.set 1 (.int .u16 (n' : Int))⟩
theorem RSt.nbytes {first st B Q : Nat} {w0 w : World} {g0 c0 nx j : Nat} {nb nb' : Int} {Gs : List MSet} (h : RSt first st B Q w0 w g0 c0 nx j nb Gs) : RSt first st B Q w0 (w.setCell ⟨Q, 11, none⟩ (.int .u64 nb')) g0 c0 nx j nb' Gs := by
  obtain ⟨A, c, hq, ha⟩ := id h.q
  exact h.qstep (only_set (only_refl _ _) 11 _) ⟨A, c, hq.setNb, ha⟩
theorem RSt.take {first st B Q : Nat} {w0 w : World} {g0 c0 nx j : Nat} {nb : Int} {Gs : List MSet} {A : Option Addr} {c n : Nat} (h : RSt first st B Q w0 w g0 c0 nx j nb Gs) (hn : n = Gs.length - (j + 1)) (ha : j + 1 < Gs.length → A = some ⟨g0, j + 1, none⟩ ∧ Gs.length - (j + 1) ≤ c ∧ c ≤ maxLen) :
    RSt first st B Q w0 (w.setCell ⟨Q, 3, none⟩ (.slice A n c)) g0 c0 nx (j + 1) nb Gs := by
  obtain ⟨A', c', hq, ha'⟩ := id h.q
  subst hn
  exact h.qstep (only_set (only_refl _ _) 3 _) ⟨A, c, hq.setOv, ha⟩
theorem RSt.next {first st B Q : Nat} {w0 w : World} {g0 c0 nx n' j : Nat} {nb : Int} {Gs : List MSet} (h : RSt first st B Q w0 w g0 c0 nx j nb Gs) :
    RSt first st B Q w0 (w.setCell ⟨Q, 1, none⟩ (.int .u16 (n' : Int))) g0 c0 n' j nb Gs := by
  obtain ⟨A', c', hq, ha'⟩ := id h.q
  exact h.qstep (only_set (only_refl _ _) 1 _) ⟨A', c', hq.setNext, ha'⟩

theorem QRow.cells {Q si next : Nat} {ov : Value} {nb : Int} {w : World} (h : QRow Q si next ov nb w) : ∃ G2,
    w.cell? ⟨Q, 1, none⟩ = some (.int .u16 (next : Int)) ∧ w.cell? ⟨Q, 3, none⟩ = some ov ∧ w.cell? ⟨Q, 4, none⟩ = some (.slice (some ⟨G2, 0, none⟩) 0 0) ∧ w.cell? ⟨Q, 10, none⟩ = some (.bool false) ∧ ∀ i, w.frozen? ⟨Q, i, none⟩ = false := by
  obtain ⟨G2, G3, G4, mp, mq, hrow⟩ := h
  have hf := fun i => hrow.frozen i
  refine ⟨G2, ?_⟩
  simp only [hrow.cell]
  exact ⟨rfl, rfl, rfl, rfl, hf⟩
theorem RSt.at {first st B Q : Nat} {w0 w : World} {g0 c0 nx j : Nat} {nb : Int} {Gs : List MSet} (h : RSt first st B Q w0 w g0 c0 nx j nb Gs) {i : Nat} {s : MSet} (hs : Gs[i]? = some s) : w.cell? ⟨g0, i, none⟩ = some (stp s) := by
  have hi := (List.getElem?_eq_some_iff.1 hs).1
  obtain ⟨A, c, e, _, _, _, _, hc⟩ := Rd.of_own h.own
  injection e with e1 _ _
  obtain ⟨g, o, e2, hg⟩ := hc (by omega)
  rw [← e1] at e2
  injection e2 with e2
  injection e2 with e2 e3
  subst e2 e3
  simpa using hg i (stp s) (by simp [hs])
/-- The bytes of chunks. -/
def joined (cs : List Ck) : List UInt8 := (cs.map fun c => c.2.u).flatten
theorem joined_take {cs : List Ck} {i : Nat} {c : Ck} (h : cs[i]? = some c) : joined (cs.take (i + 1)) = joined (cs.take i) ++ c.2.u := by
  unfold joined
  rw [List.take_add_one, h]
  simp
theorem joined_le (cs : List Ck) (i : Nat) : (joined (cs.take i)).length ≤ (joined cs).length := by
  have h : joined cs = joined (cs.take i) ++ joined (cs.drop i) := by
    unfold joined
    rw [← List.flatten_append, ← List.map_append, List.take_append_drop]
  rw [h, List.length_append]
  omega
/-- A buffer of n bytes that begins with bytes. -/
def buf (n : Nat) (l : List UInt8) : List Value := bvs l ++ List.replicate (n - l.length) (.int .u8 0)
theorem buf_length {n : Nat} {l : List UInt8} (h : l.length ≤ n) : (buf n l).length = n := by simp [buf, bvs_length]; omega
theorem buf_splice {n : Nat} {l m : List UInt8} (h : l.length + m.length ≤ n) : splice (buf n l) l.length (bvs m) = buf n (l ++ m) := by
  unfold splice buf
  rw [List.take_left' (bvs_length l), bvs_length, List.drop_append, bvs_length, List.drop_eq_nil_of_le (by rw [bvs_length]; omega), bvs_append, List.drop_replicate, List.append_assoc]
  simp
  omega
end Go.Proofs.YtnlkmcbhhljajaaDoor
