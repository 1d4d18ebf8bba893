/- Words for impl.Reassemble: bytes that are kept while two lists grow. No condition. -/
import Derived.Test.YtnlkmcbhhljajaaDoorRbb
namespace Go.Proofs.YtnlkmcbhhljajaaDoor
open Go.RowKit Go.Lib

/-- Bytes that lie in neither of two blocks. -/
def Keep (w : World) (r1 r2 : Option Nat) (v : Value) (l : List UInt8) : Prop := Sl w v l ∧ (0 < l.length → ∀ g, r1 = some g ∨ r2 = some g → Far v g)
theorem Sl.block {w : World} {A : Addr} {n c : Nat} {l : List UInt8} (h : Sl w (.slice (some A) n c) l) (hp : 0 < l.length) : A.block < w.heap.size := by
  obtain ⟨A', c', hv, _, _, _, _, hc⟩ := h
  injection hv with e1 _ _
  obtain ⟨g, o, e2, hg⟩ := hc (by omega)
  rw [e2] at e1
  injection e1 with e1
  subst e1
  exact World.block_lt_of_cell? w _ (hg 0 _ (bvs_get l 0 hp))
theorem Sl.kept {w w' : World} {v : Value} {l : List UInt8} {r : Option Nat} (h : Sl w v l) (hg : w.grownBy w' r) (hf : 0 < l.length → ∀ g, r = some g → Far v g) : Sl w' v l := by
  cases r with
  | some g => exact h.only' hg (fun hp => hf hp g rfl)
  | none => exact h.below ⟨hg.os, hg.tape, hg.output, hg.size, fun i hi => hg.block i hi (by simp)⟩
theorem Keep.below {w w' : World} {r1 r2 : Option Nat} {v : Value} {l : List UInt8} (h : Keep w r1 r2 v l) (hb : Below w.heap.size w w') : Keep w' r1 r2 v l := ⟨h.1.below hb, h.2⟩
theorem Keep.move1 {w w' : World} {r1 r2 r : Option Nat} {v : Value} {l : List UInt8} (h : Keep w r1 r2 v l) (hg : w.grownBy w' r1) (hr : r = r1 ∨ r = some w.heap.size) : Keep w' r r2 v l := by
  refine ⟨h.1.kept hg (fun hp g e => h.2 hp g (.inl e)), fun hp g e => ?_⟩
  rcases e with e | e
  · rcases hr with hr | hr
    · exact h.2 hp g (.inl (by rw [← hr]; exact e))
    · intro A n c hv
      subst hv
      have := h.1.block hp
      rw [hr] at e
      injection e with e
      omega
  · exact h.2 hp g (.inr e)
theorem Keep.swap {w : World} {r1 r2 : Option Nat} {v : Value} {l : List UInt8} (h : Keep w r1 r2 v l) : Keep w r2 r1 v l := ⟨h.1, fun hp g e => h.2 hp g e.symm⟩
theorem Keep.move2 {w w' : World} {r1 r2 r : Option Nat} {v : Value} {l : List UInt8} (h : Keep w r1 r2 v l) (hg : w.grownBy w' r2) (hr : r = r2 ∨ r = some w.heap.size) : Keep w' r1 r v l := (h.swap.move1 hg hr).swap
theorem Keep.new {w w' : World} {A : Option Addr} {n c : Nat} {l : List UInt8} {r1 r2 : Option Nat} (h : Sl w' (.slice A n c) l) (hA : ∀ a, A = some a → w.heap.size ≤ a.block) (h1 : ∀ g, r1 = some g → g < w.heap.size) (h2 : ∀ g, r2 = some g → g < w.heap.size) : Keep w' r1 r2 (.slice A n c) l := by
  refine ⟨h, fun hp g e A' n' c' hv => ?_⟩
  injection hv with hv _ _
  have := hA A' hv
  rcases e with e | e
  · have := h1 g e
    omega
  · have := h2 g e
    omega
theorem zzT : ElT Tryd.prog 34 39 (.agg #[.bool false, .bool false, .bool false, .bool false, .int .u32 0, .int .u16 0, .int .u16 0, .int .u32 0, .slice none 0 0]) 9 40 := ⟨Tryd.underlying34, by kernel_rfl, rfl, by decide⟩
theorem i8T : ElT Tryd.prog 24 3 (.int .i64 0) 1 8 := ⟨Tryd.underlying24, by kernel_rfl, rfl, by decide⟩
/-- One struct as a list. -/
theorem Rd.lit9 (w : World) (e : TypeId) (us : List Value) (k : Nat) (hl : us.length = k) : Rd (w.alloc (.cells us.toArray e)) k 1 (.slice (some ⟨w.heap.size, 0, none⟩) 1 1) us :=
  (Row.new w e us.toArray).rd (by simp [hl]) (Nat.le_refl _) (by unfold maxLen; omega)

/-- The list of chunks while it grows. -/
structure Lst (first st : Nat) (w0 w : World) (o : Value) (ds ds' : List (Value × Pc)) (j : Nat) : Prop where
  own : w.ownsRow w0.heap.size 39 9 o j (flat (zcs first st) ds')
  len : ds'.length = j
  same : ds'.map (·.2) = (ds.take j).map (·.2)
  sl : ∀ d ∈ ds', Keep w o.ownBlock none d.1 d.2.u
  below : Below w0.heap.size w0 w
theorem Lst.nil (first st : Nat) (w0 : World) (ds : List (Value × Pc)) : Lst first st w0 w0 (.slice none 0 0) ds [] 0 := ⟨World.ownsRow_nil _ _ _ _, rfl, rfl, fun d h => (by cases h), Below.refl _ _⟩
theorem Lst.bstep {first st : Nat} {w0 w w' : World} {o : Value} {ds ds' : List (Value × Pc)} {j : Nat} (h : Lst first st w0 w o ds ds' j) (hb : Below w.heap.size w w') : Lst first st w0 w' o ds ds' j :=
  ⟨own_below h.own hb, h.len, h.same, fun d hd => (h.sl d hd).below hb, below_step h.below h.below.size hb⟩
theorem Lst.add {first st : Nat} {w0 w w' : World} {o o' : Value} {ds ds' : List (Value × Pc)} {j : Nat} {x d : Value × Pc} (h : Lst first st w0 w o ds ds' j) (hx : ds[j]? = some x) (hd : d.2 = x.2) (hk : Keep w o.ownBlock none d.1 d.2.u)
    (hown : w'.ownsRow w0.heap.size 39 9 o' (j + 1) (flat (zcs first st) ds' ++ zcs first st d)) (hg : w.grownBy w' o.ownBlock) (hr : o'.ownBlock = o.ownBlock ∨ o'.ownBlock = some w.heap.size) : Lst first st w0 w' o' ds (ds' ++ [d]) (j + 1) := by
  refine ⟨by rw [flat_append, flat_one]; exact hown, by simp [h.len], ?_, fun e he => ?_, h.below.grown hg h.below.size (fun g e => (h.own.lt g e).1)⟩
  · rw [List.map_append, h.same, List.take_add_one, hx, List.map_append]
    simp [hd]
  · rcases List.mem_append.1 he with h1 | h1
    · exact (h.sl e h1).move1 hg hr
    · obtain rfl := List.mem_singleton.1 h1
      exact hk.move1 hg hr

/-- The i-th number. -/
def numAt (M i : Nat) : Value := .int .i64 ((if i < M then 50 + i else 0 : Nat) : Int)
theorem nums_add (M j : Nat) : (List.range j).map (numAt M) ++ [numAt M j] = (List.range (j + 1)).map (numAt M) := by rw [List.range_succ, List.map_append]; rfl
/-- The answers while they are copied. -/
structure Ans (w0 w : World) (ms : List (List UInt8)) (jo jp : Nat) (o p : Value) (vs : List Value) : Prop where
  out : w.ownsRow w0.heap.size 26 1 o jo vs
  len : vs.length = jo
  sl : ∀ (i : Nat) (v : Value) (m : List UInt8), vs[i]? = some v → (ms ++ [[]])[i]? = some m → Keep w o.ownBlock p.ownBlock v m
  num : w.ownsRow w0.heap.size 3 1 p jp ((List.range jp).map (numAt ms.length))
  below : Below w0.heap.size w0 w
theorem Ans.nil (w0 : World) (ms : List (List UInt8)) : Ans w0 w0 ms 0 0 (.slice none 0 0) (.slice none 0 0) [] := ⟨World.ownsRow_nil _ _ _ _, rfl, fun i v m h => by simp at h, World.ownsRow_nil _ _ _ _, Below.refl _ _⟩
section
variable {w0 w w' : World} {ms : List (List UInt8)} {jo jp : Nat} {o p : Value} {vs : List Value}
theorem Ans.bstep (h : Ans w0 w ms jo jp o p vs) (hb : Below w.heap.size w w') : Ans w0 w' ms jo jp o p vs :=
  ⟨own_below h.out hb, h.len, fun i v m h1 h2 => (h.sl i v m h1 h2).below hb, own_below h.num hb, below_step h.below h.below.size hb⟩
theorem Ans.addo {o' v : Value} {m : List UInt8} (h : Ans w0 w ms jo jp o p vs) (hown : w'.ownsRow w0.heap.size 26 1 o' (jo + 1) (vs ++ [v])) (hg : w.grownBy w' o.ownBlock) (hr : o'.ownBlock = o.ownBlock ∨ o'.ownBlock = some w.heap.size)
    (hv : Keep w o.ownBlock p.ownBlock v m) (hm : (ms ++ [[]])[jo]? = some m) : Ans w0 w' ms (jo + 1) jp o' p (vs ++ [v]) := by
  have r := RT.of_own h.out
  refine ⟨hown, by simp [h.len], fun i u m' h1 h2 => ?_, h.num.kept hg (r.own h.num (by decide)), h.below.grown hg h.below.size (fun g e => (h.out.lt g e).1)⟩
  rcases Nat.lt_or_ge i vs.length with hi | hi
  · rw [List.getElem?_append_left hi] at h1
    exact (h.sl i u m' h1 h2).move1 hg hr
  · rw [List.getElem?_append_right hi] at h1
    have hi2 : i - vs.length = 0 := by
      have := (List.getElem?_eq_some_iff.1 h1).1
      simp at this
      omega
    rw [hi2] at h1
    simp only [List.getElem?_cons_zero, Option.some.injEq] at h1
    subst h1
    have hl := h.len
    obtain rfl : i = jo := by omega
    rw [hm] at h2
    injection h2 with h2
    subst h2
    exact hv.move1 hg hr
theorem Ans.addp {p' : Value} (h : Ans w0 w ms jo jp o p vs) (hown : w'.ownsRow w0.heap.size 3 1 p' (jp + 1) ((List.range jp).map (numAt ms.length) ++ [numAt ms.length jp])) (hg : w.grownBy w' p.ownBlock) (hr : p'.ownBlock = p.ownBlock ∨ p'.ownBlock = some w.heap.size) :
    Ans w0 w' ms jo (jp + 1) o p' vs := by
  have r := RT.of_own h.num
  rw [nums_add] at hown
  exact ⟨h.out.kept hg (r.own h.out (by decide)), h.len, fun i u m' h1 h2 => (h.sl i u m' h1 h2).move2 hg hr, hown, h.below.grown hg h.below.size (fun g e => (h.num.lt g e).1)⟩
end

/-- What impl.Reassemble returns. -/
def ImR (ms : List (List UInt8)) (w : World) (z : Ending) (w' : World) : Prop :=
  ∃ (A1 : Option Addr) (c1 : Nat) (A2 : Option Addr) (c2 : Nat) (vs : List Value), z = .returned (.tuple #[.slice A1 (ms.length + 1) c1, .slice A2 (ms.length + 1) c2, .bool true]) ∧ Rd w' 1 (ms.length + 1) (.slice A1 (ms.length + 1) c1) vs ∧ vs.length = ms.length + 1 ∧
    (∀ (i : Nat) (v : Value) (m : List UInt8), vs[i]? = some v → (ms ++ [[]])[i]? = some m → Sl w' v m) ∧ Rd w' 1 (ms.length + 1) (.slice A2 (ms.length + 1) c2) ((List.range (ms.length + 1)).map (numAt ms.length)) ∧ Below w.heap.size w w'
end Go.Proofs.YtnlkmcbhhljajaaDoor
