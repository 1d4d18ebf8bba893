/- Words for ZZReassemble: a fresh queue, a buffer that was read into. No condition. -/
import Derived.Test.YtnlkmcbhhljajaaDoorRaP
import Derived.Test.YtnlkmcbhhljajaaDoorRaN
import Derived.Test.YtnlkmcbhhljajaaDoorRaY
namespace Go.Proofs.YtnlkmcbhhljajaaDoor
open Go.RowKit Go.Lib

theorem QSeen.bstep {first st B Q : Nat} {w0 w w' : World} {done : List Pc} (h : QSeen first st B Q w0 done w) (hb : Below w.heap.size w w') : QSeen first st B Q w0 done w' := by
  obtain ⟨ov, nb, Gs, hq, hs⟩ := h
  exact ⟨ov, nb, Gs, hq.bstep hb, hs⟩
theorem QSeen.below {first st B Q : Nat} {w0 w : World} {done : List Pc} (h : QSeen first st B Q w0 done w) : Below w0.heap.size w0 w := by
  obtain ⟨ov, nb, Gs, hq, hs⟩ := h
  exact hq.below
theorem QSeen.new {first st : Nat} {w w' : World} {Q G1 G2 G3 G4 : Nat} {mp mq : Value} (hr : Row w' Q 61 (qcs st 0 (.slice (some ⟨G1, 0, none⟩) 0 0) (.slice (some ⟨G2, 0, none⟩) 0 0) (.slice none 0 0) (.slice (some ⟨G3, 0, none⟩) 0 0) (.slice (some ⟨G4, 0, none⟩) 0 0) mp mq 0))
    (h1 : Row w' G1 69 []) (hg : w.heap.size ≤ G1) (hq : w.heap.size ≤ Q) (hb : Below w.heap.size w w') : QSeen first st w.heap.size Q w [] w' :=
  ⟨_, 0, [], ⟨⟨G2, G3, G4, mp, mq, hr⟩, h1.own hg rfl (Nat.zero_le _), fun s h => (by cases h), List.Pairwise.nil, hb, Nat.le_refl _, hb.size, hq, fun s h => (by cases h)⟩, Seen.nil⟩

/-- A buffer of 4096 bytes that has been read into, cut to what was read. -/
def BufAt (B : Nat) (w : World) (v : Value) (m : List UInt8) : Prop :=
  (v = .slice none 0 0 ∧ m = []) ∨ ∃ gb, v = .slice (some ⟨gb, 0, none⟩) m.length 4096 ∧ Row w gb 5 (buf 4096 m) ∧ B ≤ gb ∧ m.length ≤ 4096
theorem BufAt.sl {B : Nat} {w : World} {v : Value} {m : List UInt8} (h : BufAt B w v m) : Sl w v m := by
  rcases h with ⟨rfl, rfl⟩ | ⟨gb, rfl, hr, _, hl⟩
  · exact Sl.nil w
  · refine ⟨_, 4096, rfl, hl, by unfold maxLen; omega, by rw [bvs_length, Nat.mul_one], (fun h => by cases h), fun _ => ⟨gb, 0, rfl, fun j u hu => ?_⟩⟩
    rw [Nat.zero_add, hr.cell]
    unfold buf
    rw [List.getElem?_append_left (List.getElem?_eq_some_iff.1 hu).1]
    exact hu
theorem BufAt.below {B : Nat} {w w' : World} {v : Value} {m : List UInt8} (h : BufAt B w v m) (hb : Below w.heap.size w w') : BufAt B w' v m := by
  rcases h with h | ⟨gb, e, hr, h1, h2⟩
  · exact .inl h
  · exact .inr ⟨gb, e, hr.below hb hr.lt, h1, h2⟩
theorem BufAt.step {B : Nat} {w w' : World} {v : Value} {m : List UInt8} {r : Option Nat} {t : TypeId} (h : BufAt B w v m) (hg : w.grownBy w' r) (hr : RT w r t) (hne : t ≠ 5) : BufAt B w' v m := by
  rcases h with h | ⟨gb, e, hrow, h1, h2⟩
  · exact .inl h
  · exact .inr ⟨gb, e, hrow.grown hg (hr.row hrow hne).symm, h1, h2⟩
theorem BufAt.other {B : Nat} {w w1 w2 : World} {v : Value} {m : List UInt8} {g : Nat} (h : BufAt B w v m) (hb : Below w.heap.size w w1) (hg : w1.grownBy w2 (some g)) (hn : w.heap.size ≤ g) : BufAt B w2 v m := by
  rcases h with h | ⟨gb, e, hrow, h1, h2⟩
  · exact .inl h
  · have hlt := hrow.lt
    exact .inr ⟨gb, e, (hrow.below hb hlt).grown hg (by intro e; injection e with e; omega), h1, h2⟩
theorem bsT : ElT Tryd.prog 23 26 (.slice none 0 0) 1 24 := ⟨Tryd.underlying23, by kernel_rfl, rfl, by decide⟩
theorem u4T : ElT Tryd.prog 41 22 (.int .u32 0) 1 4 := ⟨Tryd.underlying41, by kernel_rfl, rfl, by decide⟩
theorem new_piece {ds : List (Value × Pc)} {ps : List Pc} (hp : (ds.map (·.2)).Perm ps) (hs : ps.Pairwise (fun a b => a.t < b.t)) {j : Nat} {x : Value × Pc} (hx : ds[j]? = some x) :
    (∀ q ∈ (ds.take j).map (·.2), q ∈ ps ∧ q.t ≠ x.2.t) ∧ x.2 ∈ ps ∧ (ds.take (j + 1)).map (·.2) = (ds.take j).map (·.2) ++ [x.2] := by
  have h1 : (ds.map (·.2)).Pairwise (fun a b => a.t ≠ b.t) := by
    refine (hp.symm.pairwise (hs.imp (fun {a b} h => ?_)) (fun {a b} h => ?_))
    · intro e
      omega
    · exact fun e => h e.symm
  have h2 : (ds.take (j + 1)).map (·.2) = (ds.take j).map (·.2) ++ [x.2] := by
    rw [List.take_add_one, hx]
    simp
  refine ⟨fun q hq => ⟨hp.mem_iff.1 ?_, ?_⟩, hp.mem_iff.1 (List.mem_map_of_mem (List.mem_of_getElem? hx)), h2⟩
  · obtain ⟨d, hd, rfl⟩ := List.mem_map.1 hq
    exact List.mem_map_of_mem (List.mem_of_mem_take hd)
  · have h3 : ds.map (·.2) = (ds.take (j + 1)).map (·.2) ++ (ds.drop (j + 1)).map (·.2) := by rw [← List.map_append, List.take_append_drop]
    rw [h3, h2] at h1
    exact (List.pairwise_append.1 (List.pairwise_append.1 h1).1).2.2 q hq x.2 (List.mem_singleton.2 rfl)
/-- A step in a block that holds nothing of the queue's. -/
theorem RSt.step {first st B Q : Nat} {w0 w w' : World} {g0 c0 nx j : Nat} {nb : Int} {Gs : List MSet} {r : Option Nat} {t : TypeId} (h : RSt first st B Q w0 w g0 c0 nx j nb Gs) (hg : w.grownBy w' r) (hr : RT w r t)
    (h1 : t ≠ 61) (h2 : t ≠ 69) (h3 : t ≠ 68) (h4 : t ≠ 78) (h5 : t ≠ 48) (hw : ∀ g, r = some g → w0.heap.size ≤ g) :
    RSt first st B Q w0 w' g0 c0 nx j nb Gs := by
  obtain ⟨A, c, hq, ha⟩ := h.q
  exact ⟨⟨A, c, hq.step hg hr h1, ha⟩, h.own.kept hg (hr.own h.own h2), fun s hs => (h.sets s hs).step hg hr h3 (.inl h4) (.inl h5), h.below.grown hg h.below.size hw, h.base, Nat.le_trans h.size hg.size, h.hq⟩

/-- The protocol number of the i-th answer. -/
def protoAt (M i : Nat) : Value := .int .u32 ((if i < M then 50 + i else 0 : Nat) : Int)
theorem protos_add (M j : Nat) : (List.range j).map (protoAt M) ++ [protoAt M j] = (List.range (j + 1)).map (protoAt M) := by rw [List.range_succ, List.map_append]; rfl
/-- While messages are read: jq have been; jo answers and jp numbers lie in the lists. -/
structure Rdg (first st Q : Nat) (w0 w : World) (g0 c0 : Nat) (Gs : List MSet) (ms : List (List UInt8)) (jq jo jp : Nat) (o p : Value) (vs : List Value) : Prop where
  q : ∃ nb, RSt first st w0.heap.size Q w0 w g0 c0 jq jq nb Gs
  out : w.ownsRow w0.heap.size 26 1 o jo vs
  bufs : ∀ (i : Nat) (v : Value) (m : List UInt8), vs[i]? = some v → (ms ++ [[]])[i]? = some m → BufAt w0.heap.size w v m
  pro : w.ownsRow w0.heap.size 22 1 p jp ((List.range jp).map (protoAt ms.length))

section
variable {first st Q : Nat} {w0 w w' : World} {g0 c0 : Nat} {Gs : List MSet} {ms : List (List UInt8)} {jq jo jp : Nat} {o p : Value} {vs : List Value}
theorem Rdg.below (h : Rdg first st Q w0 w g0 c0 Gs ms jq jo jp o p vs) : Below w0.heap.size w0 w := by
  obtain ⟨nb, hq⟩ := h.q
  exact hq.below
theorem Rdg.bstep (h : Rdg first st Q w0 w g0 c0 Gs ms jq jo jp o p vs) (hb : Below w.heap.size w w') : Rdg first st Q w0 w' g0 c0 Gs ms jq jo jp o p vs := by
  obtain ⟨nb, hq⟩ := h.q
  exact ⟨⟨nb, hq.bstep hb⟩, own_below h.out hb, fun i v m h1 h2 => (h.bufs i v m h1 h2).below hb, own_below h.pro hb⟩
theorem Rdg.addo {o' : Value} {v : Value} {m : List UInt8} (h : Rdg first st Q w0 w g0 c0 Gs ms jq jo jp o p vs) (hown : w'.ownsRow w0.heap.size 26 1 o' (jo + 1) (vs ++ [v])) (hg : w.grownBy w' o.ownBlock) (hl : vs.length = jo)
    (hv : BufAt w0.heap.size w v m) (hm : (ms ++ [[]])[jo]? = some m) : Rdg first st Q w0 w' g0 c0 Gs ms jq (jo + 1) jp o' p (vs ++ [v]) := by
  obtain ⟨nb, hq⟩ := h.q
  have r := RT.of_own h.out
  refine ⟨⟨nb, hq.step hg r (by decide) (by decide) (by decide) (by decide) (by decide) (fun g e => (h.out.lt g e).1)⟩, hown, fun i u m' h1 h2 => ?_, h.pro.kept hg (r.own h.pro (by decide))⟩
  rcases Nat.lt_or_ge i vs.length with hi | hi
  · rw [List.getElem?_append_left hi] at h1
    exact (h.bufs i u m' h1 h2).step hg r (by decide)
  · rw [List.getElem?_append_right hi] at h1
    have hi2 : i - vs.length = 0 := by
      have := (List.getElem?_eq_some_iff.1 h1).1
      simp at this
      omega
    rw [hi2] at h1
    simp only [List.getElem?_cons_zero, Option.some.injEq] at h1
    subst h1
    obtain rfl : i = jo := by omega
    rw [hm] at h2
    injection h2 with h2
    subst h2
    exact hv.step hg r (by decide)
theorem Rdg.addp {p' : Value} (h : Rdg first st Q w0 w g0 c0 Gs ms jq jo jp o p vs) (hown : w'.ownsRow w0.heap.size 22 1 p' (jp + 1) ((List.range jp).map (protoAt ms.length) ++ [protoAt ms.length jp])) (hg : w.grownBy w' p.ownBlock) :
    Rdg first st Q w0 w' g0 c0 Gs ms jq jo (jp + 1) o p' vs := by
  obtain ⟨nb, hq⟩ := h.q
  have r := RT.of_own h.pro
  rw [protos_add] at hown
  exact ⟨⟨nb, hq.step hg r (by decide) (by decide) (by decide) (by decide) (by decide) (fun g e => (h.pro.lt g e).1)⟩, h.out.kept hg (r.own h.out (by decide)), fun i u m' h1 h2 => (h.bufs i u m' h1 h2).step hg r (by decide), hown⟩
theorem Rdg.read {w1 : World} {l : List UInt8} {gb : Nat} {z : Ending} (h : Rdg first st Q w0 w g0 c0 Gs ms jq jo jp o p vs) (hb : Below w.heap.size w w1) (hr : Row w1 gb 5 (buf 4096 [])) (hgb : gb = w.heap.size) (hl : l.length ≤ 4096)
    (hd : ReadOne first st w0.heap.size Q w0 g0 c0 jq Gs l gb w1 z w') : Rdg first st Q w0 w' g0 c0 Gs ms (jq + 1) jo jp o p vs ∧ BufAt w0.heap.size w' (.slice (some ⟨gb, 0, none⟩) l.length 4096) l := by
  obtain ⟨_, nb', hq, hrow, wm, g1, g2⟩ := hd
  have h1 := h.bstep hb
  obtain ⟨nb1, hq1⟩ := h1.q
  have rb := RT.of_row hr
  obtain ⟨A, c, hqq, _⟩ := hq1.q
  have rq : RT wm (some Q) 61 := (hqq.step g1 rb (by decide)).rt
  have o1 := h1.out.kept g1 (rb.own h1.out (by decide))
  have p1 := h1.pro.kept g1 (rb.own h1.pro (by decide))
  have hz := h.below.size
  exact ⟨⟨⟨nb', hq⟩, o1.kept g2 (rq.own o1 (by decide)), fun i u m' e1 e2 => ((h.bufs i u m' e1 e2).other hb g1 (by omega)).step g2 rq (by decide), p1.kept g2 (rq.own p1 (by decide))⟩, .inr ⟨gb, rfl, hrow, by omega, hl⟩⟩
end
theorem buf_nil (N : Nat) : List.replicate N (.int .u8 0) = buf N [] := rfl
theorem wpList_make_buf {w : World} {ops : Array Oper} {rest : List Oper} {o : Oper} {a : Act} {Q : Exit → Act → World → Prop}
    (hg : o.guard = none) (l c : Operand) (hop : o.op = Op.makeSlice 26 l c) (hl : a.eval l = .int .i64 4096) (hc : a.eval c = .int .i64 4096)
    (hK : ∀ w', Row w' w.heap.size 5 (buf 4096 []) → Below w.heap.size w w' → wpList Tryd.prog ops Q rest (a.put o.dst (.slice (some ⟨w.heap.size, 0, none⟩) 4096 4096)) w') :
    wpList Tryd.prog ops Q (o :: rest) a w := by
  refine wpList_make_row w hg l c _ hop bT rfl .i64 .i64 4096 4096 4096 hl hc rfl rfl (by omega) (by unfold maxLen; omega) fun w' h hb => hK w' ?_ hb
  rw [← buf_nil]
  exact h
theorem cut_to (g p : Nat) (w : World) (hp : p ≤ 4096) : (Instr.slice 26 (.slice (some ⟨g, 0, none⟩) 4096 4096) none (some (.int .i64 (p : Int))) none).run Tryd.prog w = .ok (.slice (some ⟨g, 0, none⟩) p 4096) w := by
  have hs : (sizeOf (Tryd.prog.elem 26)).run Tryd.prog w = .ok 1 w := by kernel_rfl
  rw [run_slice_h w _ _ _ _ (by kernel_rfl) .i64 _ (by omega) (by omega), hs]
  simp [sliced, Result.andThen, Addr.add]
end Go.Proofs.YtnlkmcbhhljajaaDoor
