/- The contract of getGapAckBlocks. Condition: the numbers are at most 1000 behind the first. -/
import Derived.Test.YtbmnpadpjbcljaaDoorRvI
import Derived.Test.YtbmnpadpjbcljaaDoorRvR
namespace Go.Proofs.YtbmnpadpjbcljaaDoor
open Go.RowKit Go.Lib

theorem gT : ElT Tryd.prog 46 57 (.agg #[.int .u16 0, .int .u16 0]) 2 4 := ⟨Tryd.underlying46, by kernel_rfl, rfl, by decide⟩
/-- Pairs as cells. -/
def gcells (k : IntKind) (L : List (Nat × Nat)) : List Value := L.flatMap fun p => [.int k (p.1 : Nat), .int k (p.2 : Nat)]
theorem gcells_snoc (k : IntKind) (L : List (Nat × Nat)) (p : Nat × Nat) : gcells k (L ++ [p]) = gcells k L ++ [.int k (p.1 : Nat), .int k (p.2 : Nat)] := by simp [gcells]
theorem gcells_length (k : IntKind) (L : List (Nat × Nat)) : (gcells k L).length = L.length * 2 := by
  induction L with
  | nil => rfl
  | cons a l ih => simp only [gcells, List.flatMap_cons, List.length_append, List.length_cons, List.length_nil] at ih ⊢; omega

/-- How far a number is, off its value. -/
def dOf (first : Nat) (v : Value) : Nat := ((intOf v - (first : Int)) % 4294967296).toNat
theorem dOf_tsn (first d : Nat) (hd : d < 4294967296) : dOf first (.int .u32 (tsnOf first d : Nat)) = d := by
  unfold dOf tsnOf
  simp only [intOf]
  omega
def isT : Value → Bool
  | .bool b => b
  | _ => false

/-- What holds in the search. -/
def GInv (f : Nat → Bool) (c ab B : Nat) (L : List (Nat × Nat)) (d : Nat) (b : Bool) (g : Value) (w wr : World) : Prop :=
  wr.ownsRow B 57 2 g L.length (gcells .u16 L) ∧ Below w.heap.size w wr ∧ B ≤ wr.heap.size ∧ ∃ s e : Nat, Row wr ab 57 [.int .u16 (s : Int), .int .u16 (e : Int)] ∧ ((b = false ∧ P1 f c L d) ∨ (b = true ∧ P2 f c L d s))

theorem gap_val {first a c : Nat} (hc : c ≤ a) (ha : a ≤ 2000) : IntKind.u16.wrap ((((tsnOf first a : Nat) : Int) - ((tsnOf first c : Nat) : Int)) % 4294967296) = ((a - c : Nat) : Int) := by
  unfold tsnOf
  simp [IntKind.wrap, IntKind.bits, IntKind.signed]
  omega
theorem gap_val1 {first a c : Nat} (hc : c < a) (ha : a ≤ 2000) : IntKind.u16.wrap ((((tsnOf first a : Nat) : Int) - 1 - ((tsnOf first c : Nat) : Int)) % 4294967296) = ((a - 1 - c : Nat) : Int) := by
  unfold tsnOf
  simp [IntKind.wrap, IntKind.bits, IntKind.signed]
  omega
theorem not_bit {x k : Nat} (hx : x < 18446744073709551616) (hk : k < 64) : (18446744073709551615 - x).testBit k = !x.testBit k := by
  rw [show 18446744073709551615 - x = 2 ^ 64 - (x + 1) by omega, Nat.testBit_two_pow_sub_succ (by omega)]
  simp [hk]
/-- The begin of a run is laid down. -/
theorem GInv.found {f : Nat → Bool} {c ab B d i : Nat} {L : List (Nat × Nat)} {g : Value} {w wr : World} {s e : Nat} {v : Int} (hown : wr.ownsRow B 57 2 g L.length (gcells .u16 L)) (hbel : Below w.heap.size w wr) (hsz : B ≤ wr.heap.size)
    (hab : Row wr ab 57 [.int .u16 (s : Int), .int .u16 (e : Int)]) (hP : P1 f c L d) (hc : c < d) (h1 : f (d + i) = true) (h2 : ∀ j, j < i → f (d + j) = false) (hA : w.heap.size ≤ ab) (hB : ab < B) (hv : v = ((d + i - c : Nat) : Int)) :
    GInv f c ab B L (d + i) true g w (wr.setCell ⟨ab, 0, none⟩ (.int .u16 v)) := by
  subst hv
  refine ⟨hown.kept (only_set (only_refl _ _) 0 _) (.inr (own_apart hown hB)), hbel.setCell hA _, by simpa [World.setCell] using hsz, _, e, hab.set 0 _, .inr ⟨rfl, hP.found hc h1 h2⟩⟩
theorem GInv.on1 {f : Nat → Bool} {c ab B d m : Nat} {L : List (Nat × Nat)} {g : Value} {w wr : World} {s e : Nat} (hown : wr.ownsRow B 57 2 g L.length (gcells .u16 L)) (hbel : Below w.heap.size w wr) (hsz : B ≤ wr.heap.size)
    (hab : Row wr ab 57 [.int .u16 (s : Int), .int .u16 (e : Int)]) (hP : P1 f c L d) (hc : c < d) (hm : 1 ≤ m) (h2 : ∀ j, j < m → f (d + j) = false) : GInv f c ab B L (d + m) false g w wr :=
  ⟨hown, hbel, hsz, s, e, hab, .inl ⟨rfl, hP.on hc hm h2⟩⟩
theorem GInv.on2 {f : Nat → Bool} {c ab B d m : Nat} {L : List (Nat × Nat)} {g : Value} {w wr : World} {s e : Nat} (hown : wr.ownsRow B 57 2 g L.length (gcells .u16 L)) (hbel : Below w.heap.size w wr) (hsz : B ≤ wr.heap.size)
    (hab : Row wr ab 57 [.int .u16 (s : Int), .int .u16 (e : Int)]) (hP : P2 f c L d s) (h2 : ∀ j, j < m → f (d + j) = true) : GInv f c ab B L (d + m) true g w wr :=
  ⟨hown, hbel, hsz, s, e, hab, .inr ⟨rfl, hP.on h2⟩⟩

/-- A pair is appended. -/
theorem GInv.appd {ab B m cg s e : Nat} {L : List (Nat × Nat)} {A : Option Addr} {v5 : Value} {w w2 w5 : World} (hO2 : w2.ownsRow B 57 2 (.slice A L.length cg) L.length (gcells .u16 L)) (hm : m = L.length) (hB2 : Below w.heap.size w w2) (hs2 : B ≤ w2.heap.size)
    (hA2 : Row w2 ab 57 [.int .u16 (s : Int), .int .u16 (e : Int)]) (hown5 : w5.ownsRow B 57 2 v5 (m + 1) (gcells .u16 L ++ [.int .u16 (s : Int), .int .u16 (e : Int)])) (hg5 : (w2.alloc (.cells #[.int .u16 (s : Int), .int .u16 (e : Int)] 57)).grownBy w5 (Value.slice A m cg).ownBlock)
    (hwB : w.heap.size ≤ B) (hab2 : ab < B) : w5.ownsRow B 57 2 v5 (L ++ [(s, e)]).length (gcells .u16 (L ++ [(s, e)])) ∧ Below w.heap.size w w5 ∧ B ≤ w5.heap.size ∧ Row w5 ab 57 [.int .u16 (s : Int), .int .u16 (e : Int)] := by
  subst hm
  refine ⟨by rw [gcells_snoc, List.length_append]; exact hown5, (hB2.alloc (by omega) _).grown hg5 (by rw [World.size_alloc]; omega) (fun j hj => by have := (hO2.lt j hj).1; omega), ?_, (hA2.alloc _).grown hg5 (own_apart hO2 hab2).symm⟩
  have h := hg5.size
  rw [World.size_alloc] at h
  omega

/-- The blocks that are handed back. -/
def Gaps (f : Nat → Bool) (c top : Nat) (w : World) (e : Ending) (w' : World) : Prop :=
  ∃ A cap, e = .returned (.slice A (runs f c (top - c)).length cap) ∧ Rd w' 2 (runs f c (top - c)).length (.slice A (runs f c (top - c)).length cap) (gcells .u16 (runs f c (top - c))) ∧ Below w.heap.size w w'

theorem Gaps.mk {f : Nat → Bool} {c top B m cap s : Nat} {L : List (Nat × Nat)} {A : Option Addr} {w w5 : World} (h : w5.ownsRow B 57 2 (.slice A (m + 1) cap) (L ++ [(s, top - c)]).length (gcells .u16 (L ++ [(s, top - c)]))) (hb : Below w.heap.size w w5) (hr : L ++ [(s, top - c)] = runs f c (top - c)) (hm : m = L.length) :
    Gaps f c top w (.returned (.slice A (m + 1) cap)) w5 := by
  have hl : m + 1 = (L ++ [(s, top - c)]).length := by rw [hm, List.length_append]; rfl
  rw [hl] at h ⊢
  rw [hr] at h ⊢
  exact ⟨A, cap, rfl, Rd.of_own h, hb⟩

set_option maxRecDepth 20000 in
theorem gaps_none (first c top n gq gm : Nat) (f : Nat → Bool) (du : Value) (t : TypeId) (w : World) (hr : Row w gq t (qcells first c top n gm du)) (hq : QF c top n f) (h0 : n = 0) :
    Calls Tryd.prog 15 #[.pointer (some ⟨gq, 0, none⟩), .int .i64 65535] w (Gaps f c top w) := by
  subst h0
  have k1 : w.cell? ⟨gq, 1, none⟩ = some (.int .i64 0) := by rw [hr.cell]; rfl
  have hL : runs f c (top - c) = [] := runs_none (Nat.zero_le _) (fun i _ _ => hq.none (.inl rfl))
  have HL := Lib.hid hL
  have hlt := hr.lt
  clear hr hq hL
  go_enter Tryd.func15, Tryd.ntmps15
  go_wp2
  go_ret
  unfold Gaps
  rw [HL.out]
  exact ⟨none, 0, rfl, Rd.nil _ _, (Below.refl _ _).alloc (Nat.le_refl _) _⟩

set_option maxRecDepth 20000 in
set_option maxHeartbeats 3200000 in
theorem gaps_some (first c top n gq gm : Nat) (f : Nat → Bool) (du : Value) (ws : List Nat) (t tm : TypeId) (w : World) (hf : first < 4294967296) (hr : Row w gq t (qcells first c top n gm du)) (hm : Row w gm tm (u64s ws)) (hk : MaskOk first ws f) (hq : QF c top n f) (hT : TabAt w)
    (hn : n ≠ 0) (htop : f top = true) (hc1 : f (c + 1) = false) :
    Calls Tryd.prog 15 #[.pointer (some ⟨gq, 0, none⟩), .int .i64 65535] w (Gaps f c top w) := by
  have htb := hq.top
  have hcb := hq.c
  have hct := (hq.lo _ htop).1
  have hn1 : n ≤ 1001 := by rw [hq.n]; exact cnt_le f
  have k0 : w.cell? ⟨gq, 0, none⟩ = some (.int .u32 (tsnOf first top : Nat)) := by rw [hr.cell]; rfl
  have k1 : w.cell? ⟨gq, 1, none⟩ = some (.int .i64 (n : Int)) := by rw [hr.cell]; rfl
  have k5 : w.cell? ⟨gq, 5, none⟩ = some (.int .u32 (tsnOf first c : Nat)) := by rw [hr.cell]; rfl
  have hb0 : ((n : Int) == 0) = false := by rw [beq_eq_false_iff_ne]; omega
  have hs := qstep (first := first) (c := c)
  have Hr := Lib.hid hr
  have Hm := Lib.hid hm
  have Hk := Lib.hid hk
  have Hq := Lib.hid hq
  have HT := Lib.hid hT
  have hlq := hr.lt
  clear hr hm hk hq hT
  go_enter Tryd.func15, Tryd.ntmps15
  go_wp2_with fail
  go_quiet (fail)
  have hA := (Below.refl w.heap.size w).alloc (Nat.le_refl _) (.cells #[.int .u16 0, .int .u16 0] 57)
  have hRA := Row.new w 57 #[.int .u16 0, .int .u16 0]
  have HI : Hid (GInv f c w.heap.size (w.heap.size + 1) [] (c + 1) false (.slice none 0 0) w ((w.alloc (.cells #[.int .u16 0, .int .u16 0] 57)).drewN nq)) :=
    Lib.hid ⟨World.ownsRow_nil _ _ _ _, below_drewN hA _, by show _ ≤ (w.alloc _).heap.size; rw [World.size_alloc]; exact Nat.le_refl _, 0, 0, hRA.drewN _, .inl ⟨rfl, by rw [show c + 1 - 1 - c = 0 by omega]; rfl, fun h => by rw [hc1] at h; cases h⟩⟩
  clear hA hRA k0 k1 k5 hb0 hs
  go_wp2_with fail
  go_loopw [4, 8, 9] (fun g fe ts wr => ∃ (d : Nat) (b : Bool) (L : List (Nat × Nat)), c < d ∧ d ≤ top ∧ ts = .int .u32 (tsnOf first d : Nat) ∧ fe = .bool b ∧ L.length ≤ 1001 ∧ Hid (GInv f c w.heap.size (w.heap.size + 1) L d b g w wr)) (fun g fe ts _ => meas f (dOf first ts) (isT fe))
  case atStart => exact ⟨c + 1, false, [], by omega, by omega, rfl, rfl, by simp, HI⟩
  case round =>
    clear HI
    obtain ⟨d, b, L, hd1, hd2, rfl, rfl, hL, HI⟩ := hrel
    obtain ⟨hown, hbel, hsz, s, e, hab, hcase⟩ := HI.out
    obtain ⟨Ag, cg, hg⟩ := own_slice hown
    subst hg
    have hr2 := Hr.out.below hbel hlq
    have hm2 := Hm.out.below hbel Hm.out.lt
    have hT2 := HT.out.below hbel
    obtain ⟨hw, hx⟩ := Hk.out.word (tsnOf first d)
    have kw : wr.cell? ⟨gm, wix (tsnOf first d), none⟩ = some (.int .u64 (ws.getD (wix (tsnOf first d)) 0 : Nat)) := by rw [hm2.cell]; exact u64s_get hw
    have k2 : wr.cell? ⟨gq, 2, none⟩ = some (.slice (some ⟨gm, 0, none⟩) 625 625) := by rw [hr2.cell]; rfl
    have k5 : wr.cell? ⟨gq, 5, none⟩ = some (.int .u32 (tsnOf first c : Nat)) := by rw [hr2.cell]; rfl
    have y0 : wr.cell? ⟨w.heap.size, 0, none⟩ = some (.int .u16 (s : Int)) := by rw [hab.cell]; rfl
    have y1 : wr.cell? ⟨w.heap.size, 1, none⟩ = some (.int .u16 (e : Int)) := by rw [hab.cell]; rfl
    have f0 := hab.frozen 0
    have f1 := hab.frozen 1
    have hi := wix_lt (tsnOf first d)
    have ho := wof_lt (tsnOf first d)
    have ht := tsnOf_lt first d
    have e1 : ((tsnOf first d : Nat) : Int) / 64 % 625 = (wix (tsnOf first d) : Nat) := by unfold wix; omega
    have e2 : ((tsnOf first d : Nat) : Int) % 64 = (wof (tsnOf first d) : Nat) := by unfold wof; omega
    have i1 : ((wix (tsnOf first d) : Nat) : Int) < 625 := by omega
    have i2 : ((L.length : Nat) : Int) < 65535 := by omega
    have C1 := Lib.hid (sna32LTE_near first d top wr hf (by omega) (by omega))
    rw [decide_eq_true hd2] at C1
    have HO := Lib.hid hown
    have HB := Lib.hid hbel
    have HA := Lib.hid hab
    have HT2 := Lib.hid hT2
    clear hown hbel hab hr2 hm2 hT2 HI
    obtain ⟨m, hm⟩ : ∃ m, m = L.length := ⟨_, rfl⟩
    rw [← hm] at i2 ⊢
    have HmL := Lib.hid hm
    clear hm
    rcases hcase with ⟨rfl, hP⟩ | ⟨rfl, hP⟩
    · have HP := Lib.hid hP
      have hscan := Hk.out.scan (d := d) (by omega) (by omega) true (ws.getD (wix (tsnOf first d)) 0) hx (fun k _ => by simp)
      generalize ws.getD (wix (tsnOf first d)) 0 = x at kw hx hscan
      generalize wix (tsnOf first d) = i at kw hi e1 i1
      obtain ⟨s1, s2, s3⟩ := hscan
      have S1 := Lib.hid s1
      have S2 := Lib.hid s2
      obtain ⟨z, hz⟩ : ∃ z, z = ctz 64 (x >>> wof (tsnOf first d)) := ⟨_, rfl⟩
      rw [← hz] at S1 S2 s3
      have Hz := Lib.hid hz
      have hword := fun h => tsnOf_word (first := first) (d := d) (j := z) h
      have Hword := Lib.hid hword
      clear s1 s2 hz hP hw hword
      generalize ho' : wof (tsnOf first d) = o at ho e2 S1 S2 Hz Hword
      have Ho := Lib.hid ho'
      clear ho'
      go_wp2_with fail
      refine C1.out.mono ?_
      rintro e w' ⟨rfl, rfl⟩
      go_wp2_with fail
      refine (nzb_any x o hx ho wr HT2.out).mono ?_
      rintro e w' ⟨rfl, rfl⟩
      rw [← Hz.out]
      by_cases hzo : z + o < 64
      · rw [decide_eq_true hzo]
        obtain ⟨hfz, hfb⟩ := S1.out hzo
        have hzt : d + z ≤ top := (Hq.out.lo _ hfz).2
        obtain ⟨t1, _, _⟩ := Hword.out (by omega)
        have q0 : IntKind.i64.wrap (((z + o : Nat) : Int) - (o : Int)) = (z : Int) := by simp [IntKind.wrap, IntKind.bits, IntKind.signed]; omega
        go_wp2
        have G2 := Lib.hid (GInv.found HO.out HB.out hsz HA.out HP.out hd1 hfz hfb (Nat.le_refl _) (by omega) (by rw [← gap_val (first := first) (c := c) (a := d + z) (by omega) (by omega), t1, Int.natCast_add]))
        have t1' : ((tsnOf first d : Nat) : Int) + (z : Int) = ((tsnOf first (d + z) : Nat) : Int) := by rw [t1, Int.natCast_add]
        refine ⟨⟨d + z, true, L, by omega, hzt, by rw [t1'], rfl, hL, by rw [HmL.out]; exact G2⟩, ?_⟩
        rw [t1', dOf_tsn _ _ (by omega), dOf_tsn _ _ (by omega)]
        exact meas_found (by omega) hfz
      · rw [decide_eq_false hzo]
        have hno := S2.out hzo
        have q0 : IntKind.u32.wrap (IntKind.u32.wrap (64 - (o : Int))) = ((64 - o : Nat) : Int) := by simp [IntKind.wrap, IntKind.bits, IntKind.signed]; omega
        go_wp2
        have hj : ∀ j, j < 64 - o → f (d + j) = false := fun j hj => hno j (by omega)
        have hdt : d + (64 - o) ≤ top := by
          rcases Nat.lt_or_ge top (d + (64 - o)) with h | h
          · have h1 := hj (top - d) (by omega)
            rw [show d + (top - d) = top by omega, htop] at h1
            cases h1
          · exact h
        have G2 := Lib.hid (GInv.on1 HO.out HB.out hsz HA.out HP.out hd1 (by omega : 1 ≤ 64 - o) hj)
        have t1' : (((tsnOf first d : Nat) : Int) + (64 - (o : Int))) % 4294967296 = ((tsnOf first (d + (64 - o)) : Nat) : Int) := by unfold tsnOf; omega
        refine ⟨⟨d + (64 - o), false, L, by omega, hdt, by rw [t1'], rfl, hL, by rw [HmL.out]; exact G2⟩, ?_⟩
        rw [t1', dOf_tsn _ _ (by omega), dOf_tsn _ _ (by omega)]
        exact meas_on (by omega) (by omega)
    · have HP := Lib.hid hP
      have hscan := Hk.out.scan (d := d) (by omega) (by omega) false (18446744073709551615 - ws.getD (wix (tsnOf first d)) 0) (by omega) (fun k hk => by rw [not_bit hx hk]; cases ((ws.getD (wix (tsnOf first d)) 0).testBit k) <;> rfl)
      generalize ws.getD (wix (tsnOf first d)) 0 = x at kw hx hscan
      generalize wix (tsnOf first d) = i at kw hi e1 i1
      obtain ⟨s1, s2, s3⟩ := hscan
      have S1 := Lib.hid s1
      have S2 := Lib.hid s2
      obtain ⟨z, hz⟩ : ∃ z, z = ctz 64 ((18446744073709551615 - x) >>> wof (tsnOf first d)) := ⟨_, rfl⟩
      rw [← hz] at S1 S2 s3
      have Hz := Lib.hid hz
      have hword := fun h => tsnOf_word (first := first) (d := d) (j := z) h
      have Hword := Lib.hid hword
      clear s1 s2 hz hP hw hword
      generalize ho' : wof (tsnOf first d) = o at ho e2 S1 S2 Hz Hword
      have Ho := Lib.hid ho'
      clear ho'
      go_wp2_with fail
      refine C1.out.mono ?_
      rintro e w' ⟨rfl, rfl⟩
      go_wp2_with fail
      refine (zb_any x o hx ho wr HT2.out).mono ?_
      rintro e w' ⟨rfl, rfl⟩
      rw [← Hz.out]
      by_cases hzo : z + o < 64
      · rw [decide_eq_true hzo]
        obtain ⟨hfz, hfb⟩ := S1.out hzo
        obtain ⟨t1, _, _⟩ := Hword.out (by omega)
        have q0 : IntKind.i64.wrap (((z + o : Nat) : Int) - (o : Int)) = (z : Int) := by simp [IntKind.wrap, IntKind.bits, IntKind.signed]; omega
        have hcs := HP.out.lt hfz
        go_wp2_with fail
        have t1' : ((tsnOf first d : Nat) : Int) + (z : Int) = ((tsnOf first (d + z) : Nat) : Int) := by rw [t1, Int.natCast_add]
        have v1 := gap_val1 (first := first) (c := c) (a := d + z) (by omega) (by omega)
        rw [t1', v1]
        clear t1 t1' v1
        refine (sna32LTE_near first (d + z) top _ hf (by omega) (by omega)).mono ?_
        rintro e w' ⟨rfl, rfl⟩
        have hO2 := HO.out.kept (only_set (only_refl wr w.heap.size) 1 (.int .u16 ((d + z - 1 - c : Nat) : Int))) (.inr (own_apart HO.out (Nat.lt_succ_self _)))
        have hB2 := HB.out.setCell (p := ⟨w.heap.size, 1, none⟩) (Nat.le_refl _) (.int .u16 ((d + z - 1 - c : Nat) : Int))
        have hA2 : Row (wr.setCell ⟨w.heap.size, 1, none⟩ (.int .u16 ((d + z - 1 - c : Nat) : Int))) w.heap.size 57 [.int .u16 (s : Int), .int .u16 ((d + z - 1 - c : Nat) : Int)] := HA.out.set 1 (.int .u16 ((d + z - 1 - c : Nat) : Int))
        have hs2 : w.heap.size + 1 ≤ (wr.setCell ⟨w.heap.size, 1, none⟩ (.int .u16 ((d + z - 1 - c : Nat) : Int))).heap.size := by simpa [World.setCell] using hsz
        generalize wr.setCell ⟨w.heap.size, 1, none⟩ (.int .u16 ((d + z - 1 - c : Nat) : Int)) = w2 at hO2 hB2 hA2 hs2 ⊢
        obtain ⟨y0', y1'⟩ := hA2.two
        have f1' := hA2.frozen 1
        have k5' : w2.cell? ⟨gq, 5, none⟩ = some (.int .u32 (tsnOf first c : Nat)) := by rw [(Hr.out.below hB2 hlq).cell]; rfl
        have HO2 := Lib.hid hO2
        have HB2 := Lib.hid hB2
        have HA2 := Lib.hid hA2
        clear hO2 hB2 hA2 k2 k5 y0 y1 f0 f1 kw
        by_cases hdt : d + z ≤ top
        · rw [decide_eq_true hdt]
          go_wp2_with (at_builtin; refine wpList_append_rd _ rfl _ _ rfl gT (w.heap.size + 1) _ m (gcells .u16 L) rfl ((by rw [HmL.out]; exact HO2.out : w2.ownsRow (w.heap.size + 1) 57 2 (.slice Ag m cg) m (gcells .u16 L)).alloc _) _ 1 [_, _] rfl (Rd.lit2 w2 57 (.int .u16 (s : Int)) (.int .u16 ((d + z - 1 - c : Nat) : Int)) rfl) ?c1 ?c2 ?c3 ?c4 ?_)
          case c1 => simp [Value.oneCell']
          case c2 => unfold maxLen; omega
          case c3 => omega
          case c4 => rw [World.size_alloc]; omega
          intro v5 w5 hown5 hg5 _
          obtain ⟨A5, c5, e5⟩ := own_slice hown5
          subst e5
          go_wp2_with fail
          refine (sna32GT_near first (d + z) top _ hf (by omega) (by omega)).mono ?_
          rintro e w' ⟨rfl, rfl⟩
          rw [decide_eq_false (by omega)]
          go_wp2
          have hrun := (HP.out.on hfb).close hcs
          have hrl := runs_le (p := f) (c := c) (k := d + z - 1 - c)
          rw [← hrun] at hrl
          obtain ⟨g1, g2, g3, g4⟩ := GInv.appd HO2.out HmL.out HB2.out hs2 HA2.out hown5 hg5 (by omega) (Nat.lt_succ_self _)
          have hlen : m + 1 = (L ++ [(s, d + z - 1 - c)]).length := by rw [HmL.out, List.length_append]; rfl
          refine ⟨⟨d + z, false, L ++ [(s, d + z - 1 - c)], by omega, hdt, rfl, rfl, by omega, ?_⟩, ?_⟩
          · rw [hlen] at g1 ⊢
            exact Lib.hid ⟨g1, g2, g3, s, d + z - 1 - c, g4, .inl ⟨rfl, P1.closed hrun hfz⟩⟩
          · rw [dOf_tsn _ _ (by omega), dOf_tsn _ _ (by omega)]
            exact meas_end (by omega) hfz hfb
        · rw [decide_eq_false hdt]
          go_wp2_with fail
          refine (sna32GT_near first (d + z) top _ hf (by omega) (by omega)).mono ?_
          rintro e w' ⟨rfl, rfl⟩
          rw [decide_eq_true (by omega)]
          have v2 := Lib.hid <| gap_val (first := first) (c := c) (a := top) (by omega) (by omega)
          have HO3 := HO2.out.kept (only_set (only_refl w2 w.heap.size) 1 (.int .u16 ((top - c : Nat) : Int))) (.inr (own_apart HO2.out (Nat.lt_succ_self _)))
          have HB3 := HB2.out.setCell (p := ⟨w.heap.size, 1, none⟩) (Nat.le_refl _) (.int .u16 ((top - c : Nat) : Int))
          have HA3 : Row (w2.setCell ⟨w.heap.size, 1, none⟩ (.int .u16 ((top - c : Nat) : Int))) w.heap.size 57 [.int .u16 (s : Int), .int .u16 ((top - c : Nat) : Int)] := HA2.out.set 1 (.int .u16 ((top - c : Nat) : Int))
          have hs3 : w.heap.size + 1 ≤ (w2.setCell ⟨w.heap.size, 1, none⟩ (.int .u16 ((top - c : Nat) : Int))).heap.size := by simpa [World.setCell] using hs2
          go_wp2_with (at_builtin; rw [v2.out]; refine wpList_append_rd _ rfl _ _ rfl gT (w.heap.size + 1) _ m (gcells .u16 L) rfl ((by rw [HmL.out]; exact HO3 : (w2.setCell ⟨w.heap.size, 1, none⟩ (.int .u16 ((top - c : Nat) : Int))).ownsRow (w.heap.size + 1) 57 2 (.slice Ag m cg) m (gcells .u16 L)).alloc _) _ 1 [_, _] rfl (Rd.lit2 (w2.setCell ⟨w.heap.size, 1, none⟩ (.int .u16 ((top - c : Nat) : Int))) 57 (.int .u16 (s : Int)) (.int .u16 ((top - c : Nat) : Int)) (by simp [World.setCell])) ?c1 ?c2 ?c3 ?c4 ?_)
          case c1 => simp [Value.oneCell']
          case c2 => unfold maxLen; omega
          case c3 => omega
          case c4 => rw [World.size_alloc]; omega
          intro v5 w5 hown5 hg5 _
          obtain ⟨A5, c5, e5⟩ := own_slice hown5
          subst e5
          go_wp2
          go_ret
          obtain ⟨g1, g2, g3, g4⟩ := GInv.appd (m := m) (s := s) (e := top - c) HO3 HmL.out HB3 hs3 HA3 hown5 hg5 (by omega) (Nat.lt_succ_self _)
          have hdt' : d + z = top + 1 := by
            have h1 := (Hq.out.lo _ (hfb (z - 1) (by omega))).2
            omega
          have hrun := (HP.out.on hfb).close hcs
          rw [hdt', show top + 1 - 1 - c = top - c by omega] at hrun
          exact Gaps.mk g1 g2 hrun HmL.out
      · rw [decide_eq_false hzo]
        have hno := S2.out hzo
        have q0 : IntKind.u32.wrap (IntKind.u32.wrap (64 - (o : Int))) = ((64 - o : Nat) : Int) := by simp [IntKind.wrap, IntKind.bits, IntKind.signed]; omega
        have hj : ∀ j, j < 64 - o → f (d + j) = true := fun j hj => hno j (by omega)
        obtain ⟨d', hd'⟩ : ∃ d', d' = d + (64 - o) := ⟨_, rfl⟩
        have HD := Lib.hid hd'
        clear hd'
        go_wp2_with fail
        have t1' : (((tsnOf first d : Nat) : Int) + (64 - (o : Int))) % 4294967296 = ((tsnOf first d' : Nat) : Int) := by rw [HD.out]; unfold tsnOf; omega
        rw [t1']
        clear t1'
        refine (sna32GT_near first d' top _ hf (by have := HD.out; omega) (by omega)).mono ?_
        rintro e w' ⟨rfl, rfl⟩
        have hP2 := HP.out.on hj
        rw [← HD.out] at hP2
        have HP2 := Lib.hid hP2
        clear hP2
        by_cases hdt : d' ≤ top
        · rw [decide_eq_false (by omega)]
          go_wp2
          have hdm := HD.out
          refine ⟨⟨d', true, L, by omega, hdt, rfl, rfl, hL, by rw [HmL.out]; exact Lib.hid ⟨HO.out, HB.out, hsz, s, e, HA.out, .inr ⟨rfl, HP2.out⟩⟩⟩, ?_⟩
          rw [dOf_tsn _ _ (by omega), dOf_tsn _ _ (by omega), HD.out]
          exact meas_more (by omega) (by omega)
        · rw [decide_eq_true (by omega)]
          have hdt' : d' = top + 1 := by
            have h1 := (Hq.out.lo _ (hj (64 - o - 1) (by omega))).2
            have := HD.out
            omega
          have v2 := Lib.hid <| gap_val (first := first) (c := c) (a := top) (by omega) (by omega)
          have HO3 := HO.out.kept (only_set (only_refl wr w.heap.size) 1 (.int .u16 ((top - c : Nat) : Int))) (.inr (own_apart HO.out (Nat.lt_succ_self _)))
          have HB3 := HB.out.setCell (p := ⟨w.heap.size, 1, none⟩) (Nat.le_refl _) (.int .u16 ((top - c : Nat) : Int))
          have HA3 : Row (wr.setCell ⟨w.heap.size, 1, none⟩ (.int .u16 ((top - c : Nat) : Int))) w.heap.size 57 [.int .u16 (s : Int), .int .u16 ((top - c : Nat) : Int)] := HA.out.set 1 (.int .u16 ((top - c : Nat) : Int))
          have hs3 : w.heap.size + 1 ≤ (wr.setCell ⟨w.heap.size, 1, none⟩ (.int .u16 ((top - c : Nat) : Int))).heap.size := by simpa [World.setCell] using hsz
          go_wp2_with (at_builtin; rw [v2.out]; refine wpList_append_rd _ rfl _ _ rfl gT (w.heap.size + 1) _ m (gcells .u16 L) rfl ((by rw [HmL.out]; exact HO3 : (wr.setCell ⟨w.heap.size, 1, none⟩ (.int .u16 ((top - c : Nat) : Int))).ownsRow (w.heap.size + 1) 57 2 (.slice Ag m cg) m (gcells .u16 L)).alloc _) _ 1 [_, _] rfl (Rd.lit2 (wr.setCell ⟨w.heap.size, 1, none⟩ (.int .u16 ((top - c : Nat) : Int))) 57 (.int .u16 (s : Int)) (.int .u16 ((top - c : Nat) : Int)) (by simp [World.setCell])) ?c1 ?c2 ?c3 ?c4 ?_)
          case c1 => simp [Value.oneCell']
          case c2 => unfold maxLen; omega
          case c3 => omega
          case c4 => rw [World.size_alloc]; omega
          intro v5 w5 hown5 hg5 _
          obtain ⟨A5, c5, e5⟩ := own_slice hown5
          subst e5
          go_wp2
          go_ret
          obtain ⟨g1, g2, g3, g4⟩ := GInv.appd (m := m) (s := s) (e := top - c) HO3 HmL.out HB3 hs3 HA3 hown5 hg5 (by omega) (Nat.lt_succ_self _)
          have hrun := HP2.out.close (by have := HP2.out.2.1; have := HD.out; have := HP.out.2.1; omega)
          rw [hdt', show top + 1 - 1 - c = top - c by omega] at hrun
          exact Gaps.mk g1 g2 hrun HmL.out
end Go.Proofs.YtbmnpadpjbcljaaDoor
