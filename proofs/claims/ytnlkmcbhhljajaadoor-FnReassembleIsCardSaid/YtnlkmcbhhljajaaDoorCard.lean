/- What the rows of this seat share: variables of an interface type read the same in every later world; what a listed sentinel gives. No condition. -/
import Derived.Test.YtnlkmcbhhljajaaDoorMem
import Derived.Test.YtnlkmcbhhljajaaDoorTie
import Derived.Test.YtnlkmcbhhljajaaDoorCards
import Derived.WalkKit
import Derived.ProofKit
import Derived.OpenShut
import Derived.LaidMore
import Derived.LaidLaws
import Derived.MakeChecks
import Derived.ChangeOld
import Derived.Stop.Joined
import Derived.SevenTiedAt
namespace Go.Proofs.YtnlkmcbhhljajaaDoor
open Go.ChangeShapes Go.WideShapes Go.ChangeAt Go.RowKit

theorem own : ownKnob Tryd.prog.godebug = none := by kernel_rfl
theorem laidOut : laidOutB Tryd.prog = true := by kernel_rfl

/-- The variable's type is an interface. -/
def ifaceVar (P : Program) (n : String) : Bool :=
  match P.globalNamed n with
  | some g => match (P.globals[g]?).map (·.type) with
    | some t => match P.underlying t with
      | some (.interface _) => true
      | _ => false
    | none => false
  | none => false

theorem trod_iface_any {H : Type} {enc : TypeId × Value → H} {P : Program} {t : TypeId} {ms : Array (String × TypeId)} (ht : P.underlying t = some (.interface ms)) {W W' : World} {sp sp' : Nat → Bool} {fuel : Nat} {cs : List Value} {x : DataW H × List MemPlace}
    (h : DataW.trod enc P W 0 sp true fuel t cs = some x) : DataW.trod enc P W' 0 sp' true fuel t cs = some x := by
  cases fuel with
  | zero => simp [DataW.trod] at h
  | succ fuel =>
    unfold DataW.trod at h ⊢
    rw [ht] at h ⊢
    match cs, h with
    | [], h => simp at h
    | [c], h => cases c <;> first | (simp at h; done) | simpa using h
    | c :: d :: r, h => cases c <;> simp at h

theorem trodVars_ifaces {H : Type} {enc : TypeId × Value → H} {P : Program} {W W' : World} (hb : Below W.heap.size W W') {sp sp' : Nat → Bool} :
    ∀ {ns : List String} {gs : List (DataW H)} {ps : List MemPlace}, ns.all (ifaceVar P) = true → DataW.TrodVars enc P W sp ns gs ps → DataW.TrodVars enc P W' sp' ns gs ps
  | [], [], _, _, h => h
  | [], _ :: _, _, _, h => h.elim
  | _ :: _, [], _, _, h => h.elim
  | n :: ns, d :: ds, ps, hall, ⟨g, t, cs, fuel, p, q, h1, h2, h3, h4, hs, e⟩ => by
    simp only [List.all_cons, Bool.and_eq_true] at hall
    have hi := hall.1
    unfold ifaceVar at hi
    rw [h1] at hi
    simp only [h2] at hi
    have hlt : g < W.heap.size := by
      unfold World.var? at h3
      rw [h1] at h3
      simp only [Option.bind_some] at h3
      rcases Nat.lt_or_ge g W.heap.size with h | h
      · exact h
      · rw [Array.getElem?_eq_none h] at h3; simp at h3
    have hv : W'.var? P n = some cs := by
      unfold World.var? at h3 ⊢
      rw [h1] at h3 ⊢
      simp only [Option.bind_some] at h3 ⊢
      rw [hb.block g hlt]
      exact h3
    cases hu : P.underlying t with
    | none => rw [hu] at hi; simp at hi
    | some u =>
      rw [hu] at hi
      cases u with
      | interface ms => exact ⟨g, t, cs, fuel, p, q, h1, h2, hv, trod_iface_any hu h4, trodVars_ifaces hb hall.2 hs, e⟩
      | _ => simp at hi

/-- A listed sentinel that reads as an error is an interface value that is not nil. -/
theorem laid_cell {P : Program} {W : World} {n : String} {nm : String} {d : DataW Unit} {g : Nat} (hg : P.globalNamed n = some g) (hi : ifaceVar P n = true) :
    ∀ {laid : List (String × DataW Unit)} {ps : List MemPlace}, DataW.LaidVars P W laid ps → (n, DataW.iface nm d) ∈ laid → ∃ u v, W.cell? ⟨g, 0, none⟩ = some (.iface u v)
  | [], _, _, h => absurd h (by simp)
  | (m, x) :: r, ps, hl, h => by
    obtain ⟨g0, t0, cs0, f0, p0, q0, h1, h2, h3, h4, hs, e⟩ := hl
    rcases List.mem_cons.1 h with h | h
    · obtain ⟨rfl, rfl⟩ := Prod.mk.inj h
      obtain rfl := Option.some.inj (hg.symm.trans h1)
      unfold ifaceVar at hi
      rw [h1] at hi
      simp only [h2] at hi
      cases hu : P.underlying t0 with
      | none => rw [hu] at hi; simp at hi
      | some u =>
        rw [hu] at hi
        cases u with
        | interface ms =>
          obtain ⟨_, u, v, hcs, _, _⟩ := iface_of_trod hu h4
          have := World.var?_cell h1 h3 0
          refine ⟨u, v, this.trans ?_⟩
          obtain ⟨l⟩ := cs0
          simp only at hcs
          subst hcs
          rfl
        | _ => simp at hi
    · exact laid_cell hg hi hs h

/-- Bytes that were read as data are a list of bytes. -/
theorem open_bytes {H : Type} {enc : TypeId × Value → H} {W : World} {base : Nat} {sp : Nat → Bool} {A : Option Addr} {n c : Nat} {d : DataW H} {ps : List MemPlace}
    (h : DataW.Trod enc Tryd.prog W base sp true 26 (.slice A n c) d ps) : ∃ l, Sl W (.slice A n c) l := by
  obtain ⟨fuel, hf⟩ := h
  rcases open_ints Tryd.underlying26 Tryd.underlying5 (by kernel_rfl) hf with ⟨hcs, _⟩ | ⟨x, m, k, zs, hcs, _, hl, hm, hz, _, hcell, hwz⟩
  · simp [Value.cells] at hcs
    obtain ⟨rfl, rfl, rfl⟩ := hcs
    exact ⟨[], Sl.nil _⟩
  · simp [Value.cells] at hcs
    obtain ⟨rfl, rfl, rfl⟩ := hcs
    have hzn : n ≤ zs.length := by split at hz <;> omega
    have hlen : ((zs.take n).map fun z => UInt8.ofNat z.toNat).length = n := by simp; omega
    refine ⟨(zs.take n).map fun z => UInt8.ofNat z.toNat, some x, c, by rw [hlen], by rw [hlen]; omega, hm, by simp [bvs], (fun h => by cases h), fun hp => ?_⟩
    rw [hlen] at hp
    obtain ⟨g, o, spot⟩ := x
    have hc0 := hcell 0 (by omega)
    have hspot : spot = none := by simpa [Addr.add] using World.cell?_spot hc0
    subst hspot
    refine ⟨g, o, rfl, fun j u hu => ?_⟩
    have hj := (List.getElem?_eq_some_iff.1 hu).1
    rw [bvs_length, hlen] at hj
    have hcj := hcell j (by omega)
    have hget : zs[j]? = some (zs.getD j 0) := by rw [List.getD_eq_getElem?_getD, List.getElem?_eq_getElem (by omega)]; rfl
    have hwf := hwz (zs.getD j 0) (List.mem_of_getElem? hget)
    generalize zs.getD j 0 = z at hwf hget hcj
    have e : u = .int .u8 z := by
      simp only [bvs, List.getElem?_map, List.getElem?_take, if_pos hj, hget, Option.map_some] at hu
      injection hu with hu
      rw [← hu]
      unfold bv
      simp [Lit.wf, IntKind.min, IntKind.max, IntKind.signed, IntKind.bits] at hwf
      congr 1
      rw [UInt8.toNat_ofNat']
      omega
    rw [e]
    rw [Addr.add_lit] at hcj
    exact hcj
end Go.Proofs.YtnlkmcbhhljajaaDoor
