/- The contract of pushNoDuplicate. Conditions: the numbers lie near each other. -/
import Derived.Test.YtnlkmcbhhljajaaDoorRaI
namespace Go.Proofs.YtnlkmcbhhljajaaDoor
open Go.RowKit Go.Lib

theorem row_row {w : World} {g g' : Nat} {t t' : TypeId} {xs ys : List Value} (h : Row w g t xs) (h' : Row w g' t' ys) (hne : t ≠ t') : g ≠ g' := by
  intro e
  subst e
  have h1 : w.heap[g]? = some (.cells xs.toArray t (0, 0)) := h
  have h2 : w.heap[g]? = some (.cells ys.toArray t' (0, 0)) := h'
  rw [h1] at h2
  injection h2 with h2
  injection h2 with _ e
  exact hne e
theorem row_own {w : World} {g B : Nat} {t e : TypeId} {size n : Nat} {v : Value} {xs ys : List Value} (h : Row w g t xs) (h' : w.ownsRow B e size v n ys) (hne : t ≠ e) : v.ownBlock ≠ some g := by
  intro e1
  rcases h'.2 with ⟨rfl, _⟩ | ⟨g', cap, cur, rfl, _, hg, _⟩
  · cases e1
  · have e' : g' = g := by simpa [Value.ownBlock] using e1
    subst e'
    have h1 : w.heap[g']? = some (.cells xs.toArray t (0, 0)) := h
    rw [h1] at hg
    injection hg with hg
    injection hg with _ e2
    exact hne e2
theorem perm_lift {α β : Type} {f : α → β} : ∀ {l l' : List β}, l.Perm l' → ∀ {m : List α}, l = m.map f → ∃ m' : List α, m'.Perm m ∧ m'.map f = l' := by
  intro l l' h
  induction h with
  | nil => intro m hm; exact ⟨m, List.Perm.refl _, hm.symm⟩
  | cons x _ ih =>
    intro m hm
    cases m with
    | nil => cases hm
    | cons a m =>
      injection hm with h1 h2
      obtain ⟨m', p, e⟩ := ih h2
      exact ⟨a :: m', p.cons a, by rw [List.map_cons, e, h1]⟩
  | swap x y l =>
    intro m hm
    match m, hm with
    | a :: b :: m, hm =>
      injection hm with h1 h2
      injection h2 with h2 h3
      exact ⟨b :: a :: m, List.Perm.swap _ _ _, by rw [List.map_cons, List.map_cons, ← h1, ← h2, ← h3]⟩
  | trans _ _ ih1 ih2 =>
    intro m hm
    obtain ⟨m1, p1, e1⟩ := ih1 hm
    obtain ⟨m2, p2, e2⟩ := ih2 e1.symm
    exact ⟨m2, p2.trans p1, e2⟩

theorem ChunkAt.grown {first st : Nat} {w0 w w' : World} {c : Ck} {r : Option Nat} (h : ChunkAt first st w0 w c) (hg : w.grownBy w' r) (hr : r ≠ some c.1) : ChunkAt first st w0 w' c := by
  obtain ⟨A, n, cap, hrow, hs⟩ := h
  exact ⟨A, n, cap, hrow.grown hg hr.symm, hs⟩
theorem ChunkAt.alloc {first st : Nat} {w0 w : World} {c : Ck} (h : ChunkAt first st w0 w c) (o : Obj) : ChunkAt first st w0 (w.alloc o) c := by
  obtain ⟨A, n, cap, hrow, hs⟩ := h
  exact ⟨A, n, cap, hrow.alloc o, hs⟩
theorem ChunkAt.own {first st B : Nat} {w0 w : World} {c : Ck} {e : TypeId} {size n : Nat} {v : Value} {ys : List Value} (h : ChunkAt first st w0 w c) (h' : w.ownsRow B e size v n ys) (hne : 68 ≠ e) : v.ownBlock ≠ some c.1 := by
  obtain ⟨A, m, cap, hrow, hs⟩ := h
  exact row_own hrow h' hne
theorem ChunkAt.row {first st : Nat} {w0 w : World} {c : Ck} {g : Nat} {t : TypeId} {ys : List Value} (h : ChunkAt first st w0 w c) (h' : Row w g t ys) (hne : 68 ≠ t) : some g ≠ some c.1 := by
  obtain ⟨A, m, cap, hrow, hs⟩ := h
  intro e
  injection e with e
  exact row_row hrow h' hne e.symm

theorem ptT : ElT Tryd.prog 58 48 (.pointer none) 1 8 := ⟨Tryd.underlying58, by kernel_rfl, rfl, by decide⟩

/-- What pushNoDuplicate leaves. -/
def Added (first st B : Nat) (w0 : World) (s : MSet) (p : Ck) (w : World) (z : Ending) (w' : World) : Prop :=
  ∃ b rv' cs', z = .returned (.bool b) ∧ cs'.Perm (s.cs ++ [p]) ∧ cs'.Pairwise (fun a b => a.2.t ≤ b.2.t) ∧ SetAt first st B w0 w' ⟨s.sb, s.k, rv', cs'⟩ ∧ (rv'.ownBlock = s.rv.ownBlock ∨ ∃ g, rv'.ownBlock = some g ∧ w.heap.size ≤ g) ∧
    ∃ w1 w2 xs, w.grownBy w1 s.rv.ownBlock ∧ w1.grownBy w2 (some s.sb) ∧ w2.ownsRow B 48 1 rv' (s.cs.length + 1) xs ∧ w2.grownBy w' rv'.ownBlock

set_option maxRecDepth 20000 in
set_option maxHeartbeats 800000 in
theorem pushnd_any (first st B : Nat) (w0 : World) (s : MSet) (p : Ck) (w : World) (hf : first < 4294967296) (h : SetAt first st B w0 w s) (hp : ChunkAt first st w0 w p) (hl : s.cs.length ≤ 10000) (hb : ∀ c ∈ s.cs ++ [p], c.2.t ≤ 5000) (hB : B ≤ w.heap.size) :
    Calls Tryd.prog 36 #[.pointer (some ⟨s.sb, 0, none⟩), .pointer (some ⟨p.1, 0, none⟩)] w (Added first st B w0 s p w) := by
  obtain ⟨sb, k, rv, cs⟩ := s
  obtain ⟨hrow, hown, hck⟩ := h
  simp only at hrow hown hck hl hb ⊢
  obtain ⟨k0, k1, k2⟩ := Row.three hrow
  obtain ⟨n, hn⟩ : ∃ n, n = cs.length := ⟨_, rfl⟩
  have HR := Lib.hid hrow
  have HO := Lib.hid hown
  have HC := Lib.hid hck
  have HP := Lib.hid hp
  have Hn := Lib.hid hn
  have HB := Lib.hid hb
  have hn1 : n ≤ 10000 := by omega
  have f2 := hrow.frozen 2
  clear hrow hown hck hp hn hb k0 k1
  go_enter Tryd.func36, Tryd.ntmps36
  go_wp2_with (at_builtin; refine wpList_append_rd _ rfl _ _ rfl ptT B rv n (cs.map ckp) rfl ((by rw [Hn.out]; exact HO.out : w.ownsRow B 48 1 rv n (cs.map ckp)).alloc _) _ 1 [_] rfl (Rd.lit w 48 [.pointer (some ⟨p.1, 0, none⟩)] 1 rfl (by omega)) ?c1 ?c2 ?c3 ?c4 ?_)
  case c1 => simp [Value.oneCell']
  case c2 => unfold maxLen; omega
  case c3 => omega
  case c4 => rw [World.size_alloc]; omega
  intro v5 w5 hown5 hg5 hat5
  obtain ⟨A5, c5, e5⟩ := own_slice hown5
  subst e5
  have hr5 := (HR.out.alloc (.cells #[.pointer (some ⟨p.1, 0, none⟩)] 48)).grown hg5 (row_own HR.out HO.out (by decide)).symm
  have hc5 : ∀ c ∈ cs ++ [p], ChunkAt first st w0 w5 c := fun c hc => by
    have h1 : ChunkAt first st w0 w c := by
      rcases List.mem_append.1 hc with h | h
      · exact HC.out c h
      · obtain rfl := List.mem_singleton.1 h
        exact HP.out
    exact (h1.alloc _).grown hg5 (h1.own HO.out (by decide))
  have hg1 : w.grownBy w5 rv.ownBlock := (World.grownBy_alloc w _ _).trans hg5
  have ho5 : w5.ownsRow B 48 1 (.slice A5 (n + 1) c5) (n + 1) ((cs ++ [p]).map ckp) := by rw [List.map_append]; exact hown5
  obtain ⟨y0, y1, y2⟩ := Row.three hr5
  have f5 := hr5.frozen 2
  have hg6 : w5.grownBy (w5.setCell ⟨sb, 2, none⟩ (.slice A5 (n + 1) c5)) (some sb) := only_set (only_refl _ _) 2 _
  have hr6 := hr5.set 2 (.slice A5 (n + 1) c5)
  have ho6 := ho5.kept hg6 (.inr (row_own hr5 ho5 (by decide)))
  have hc6 : ∀ c ∈ cs ++ [p], ChunkAt first st w0 (w5.setCell ⟨sb, 2, none⟩ (.slice A5 (n + 1) c5)) c := fun c hc => (hc5 c hc).grown hg6 ((hc5 c hc).row hr5 (by decide))
  have HG1 := Lib.hid hg1
  have HG6 := Lib.hid hg6
  have HR6 := Lib.hid hr6
  have HO6 := Lib.hid ho6
  have HC6 := Lib.hid hc6
  have HAT := Lib.hid hat5
  clear hr5 hc5 hg1 ho5 hg6 hr6 ho6 hc6 hown5 hg5 y0 y1 hat5 k2 f2
  go_wp2_with fail
  generalize w5.setCell ⟨sb, 2, none⟩ (.slice A5 (n + 1) c5) = W6 at HG6 HR6 HO6 HC6 ⊢
  have hlen : ((cs ++ [p]).map ckr).length = n + 1 := by rw [List.length_map, List.length_append, Hn.out]; rfl
  have hmap : ((cs ++ [p]).map ckr).map rp = (cs ++ [p]).map ckp := by rw [List.map_map]; rfl
  refine (tsn_any first B (.slice A5 (n + 1) c5) ((cs ++ [p]).map ckr) W6 hf (by rw [hlen, hmap]; exact HO6.out) (by intro e; rw [e] at hlen; cases hlen) (by omega) (fun r hr => ?_)).mono ?_
  · obtain ⟨c, hc, rfl⟩ := List.mem_map.1 hr
    have h1 := HC6.out c hc
    exact ⟨h1.tsn.1, by have := HB.out c hc; unfold ckr; simp only; omega, h1.own HO6.out (by decide)⟩
  rintro z w7 ⟨rfl, L', pL, sL, o7, g7⟩
  obtain ⟨cs', pc, rfl⟩ := perm_lift pL.symm rfl
  rw [hlen] at o7
  have hlen' : cs'.length = n + 1 := by rw [pc.length_eq, ← hlen, List.length_map]
  have hmem : ∀ c ∈ cs', c ∈ cs ++ [p] := fun c hc => pc.mem_iff.1 hc
  have hr7 := HR6.out.grown g7 (row_own HR6.out HO6.out (by decide)).symm
  have hS7 : SetAt first st B w0 w7 ⟨sb, k, .slice A5 (n + 1) c5, cs'⟩ := ⟨hr7, by
    show w7.ownsRow B _ 1 _ cs'.length (cs'.map ckp)
    rw [hlen']
    have e : (cs'.map ckr).map rp = cs'.map ckp := by rw [List.map_map]; rfl
    rw [← e]
    exact o7, fun c hc => (HC6.out c (hmem c hc)).grown g7 ((HC6.out c (hmem c hc)).own HO6.out (by decide))⟩
  have HS7 := Lib.hid hS7
  have HPC := Lib.hid pc
  have HSL := Lib.hid sL
  have HG7 := Lib.hid g7
  have HM := Lib.hid hmem
  clear pL sL o7 g7 hr7 hS7 pc hmem hmap hlen
  go_wp2_with fail
  refine (iscomplete_any first st B w0 ⟨sb, k, .slice A5 (n + 1) c5, cs'⟩ w7 HS7.out (by show cs'.length ≤ _; omega) (by intro e; simp only at e; rw [e] at hlen'; cases hlen') (fun c hc => HB.out c (HM.out c hc))).mono ?_
  rintro z w8 ⟨b, rfl, rfl, _⟩
  go_wp2
  go_ret
  refine ⟨b, _, cs', rfl, HPC.out, ?_, HS7.out, ?_, w5, W6, _, HG1.out, HG6.out, by show W6.ownsRow _ _ _ _ (cs.length + 1) _; rw [← Hn.out]; exact HO6.out, HG7.out⟩
  · have := HSL.out
    rw [List.pairwise_map] at this
    exact this
  · rcases HAT.out with h | h
    · exact .inl h
    · exact .inr ⟨_, h, by first | (rw [World.size_alloc]; omega) | (simp; done) | (simp; omega)⟩
end Go.Proofs.YtnlkmcbhhljajaaDoor
