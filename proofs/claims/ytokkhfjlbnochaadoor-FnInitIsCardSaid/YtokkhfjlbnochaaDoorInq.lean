/- The contract of ZZInitOf, whichever the chunk. Conditions: kinds of parameters, the last has a value, bounds on numbers and lengths. -/
import Derived.Test.YtokkhfjlbnochaaDoorIno
namespace Go.Proofs.YtokkhfjlbnochaaDoor
open Go.RowKit Go.Lib

set_option maxRecDepth 20000 in
set_option maxHeartbeats 3200000 in
theorem zzinitof_ia (A : Option Addr) (n c : Nat) (tag win out inn tsn : Nat) (dl : List (Int × List UInt8)) (w : World) (hs : Sl w (.slice A n c) (chunk 2 0 (ihead tag win out inn tsn ++ kflat dl))) (hok : IOk tag win out inn tsn) (hl : dl.length ≤ 1000) (hlen : (kflat dl).length ≤ 60000) (hp : ∀ d ∈ dl, ∃ ty : Nat, d.1 = (ty : Int) ∧ OkK ty d.2) (hlast : ∀ d, dl[dl.length - 1]? = some d → 0 < d.2.length) :
    Calls Tryd.prog 14 #[.slice A n c] w (RetIn w .u16 .u16 .nilIface true tag win out inn tsn dl) := by
  have hn := hs.len
  rw [chunk_length] at hn
  have Hs := Lib.hid hs
  have Hok := Lib.hid hok
  have Hl := Lib.hid hl
  have Hlen := Lib.hid hlen
  have HP := Lib.hid hp
  have Hlast := Lib.hid hlast
  have Hn := Lib.hid hn
  obtain ⟨A', c', hv, hnc, hcm, hl0, h0, hc⟩ := hs
  injection hv with e1 e2 e3
  subst e1 e3
  obtain ⟨g0, o0, rfl, hg0⟩ := hc (by rw [chunk_length]; omega)
  have b0 : w.cell? ⟨g0, o0, none⟩ = some (.int .u8 2) := hg0 0 _ rfl
  have hg0l : g0 < w.heap.size := World.block_lt_of_cell? w ⟨g0, o0, none⟩ b0
  have ne1 : ¬ g0 = w.heap.size := by omega
  have i0 : (0 : Int) < (n : Int) := by omega
  have i1 : (n : Int) > 0 := by omega
  have hW0 : Below w.heap.size w ((w.alloc (.cells #[.bool false, .int .u32 0, .int .u32 0, .int .u16 0, .int .u16 0, .int .u32 0, .slice none 0 0] 45)).alloc (.cells #[.int .u32 0, .int .u32 0, .int .u16 0, .int .u16 0, .int .u32 0, .slice none 0 0, .slice none 0 0] 59)) := ((Below.refl w.heap.size w).alloc (Nat.le_refl _) _).alloc (by simp) _
  have b1 : ((w.alloc (.cells #[.bool false, .int .u32 0, .int .u32 0, .int .u16 0, .int .u16 0, .int .u32 0, .slice none 0 0] 45)).alloc (.cells #[.int .u32 0, .int .u32 0, .int .u16 0, .int .u16 0, .int .u32 0, .slice none 0 0, .slice none 0 0] 59)).cell? ⟨g0, o0, none⟩ = some (.int .u8 2) := (hW0.cell (p := ⟨g0, o0, none⟩) hg0l).trans b0
  have Hb1 := Lib.hid b1
  clear hok hl hlen hp hlast hl0 h0 hc hg0 hW0 e2 hcm hn hnc
  go_enter Tryd.func14, Tryd.ntmps14
  go_wp2_with fail
  have Hr1 := Lib.hid (Row.new' (g := w.heap.size + 1 + 1) ((w.alloc (.cells #[.bool false, .int .u32 0, .int .u32 0, .int .u16 0, .int .u16 0, .int .u32 0, .slice none 0 0] 45)).alloc (.cells #[.int .u32 0, .int .u32 0, .int .u16 0, .int .u16 0, .int .u32 0, .slice none 0 0, .slice none 0 0] 59)) 71 #[.int .u8 0, .int .u8 0, .slice none 0 0, .int .u32 0, .int .u32 0, .int .u16 0, .int .u16 0, .int .u32 0, .slice none 0 0, .slice none 0 0] (by simp))
  have hRi := ((Row.new w 45 #[.bool false, .int .u32 0, .int .u32 0, .int .u16 0, .int .u16 0, .int .u32 0, .slice none 0 0]).alloc (.cells #[.int .u32 0, .int .u32 0, .int .u16 0, .int .u16 0, .int .u32 0, .slice none 0 0, .slice none 0 0] 59)).alloc (.cells #[.int .u8 0, .int .u8 0, .slice none 0 0, .int .u32 0, .int .u32 0, .int .u16 0, .int .u16 0, .int .u32 0, .slice none 0 0, .slice none 0 0] 71)
  have hRc := (Row.new' (g := w.heap.size + 1) (w.alloc (.cells #[.bool false, .int .u32 0, .int .u32 0, .int .u16 0, .int .u16 0, .int .u32 0, .slice none 0 0] 45)) 59 #[.int .u32 0, .int .u32 0, .int .u16 0, .int .u16 0, .int .u32 0, .slice none 0 0, .slice none 0 0] (by simp)).alloc (.cells #[.int .u8 0, .int .u8 0, .slice none 0 0, .int .u32 0, .int .u32 0, .int .u16 0, .int .u16 0, .int .u32 0, .slice none 0 0, .slice none 0 0] 71)
  have hb0 : Below w.heap.size w (((w.alloc (.cells #[.bool false, .int .u32 0, .int .u32 0, .int .u16 0, .int .u16 0, .int .u32 0, .slice none 0 0] 45)).alloc (.cells #[.int .u32 0, .int .u32 0, .int .u16 0, .int .u16 0, .int .u32 0, .slice none 0 0, .slice none 0 0] 59)).alloc (.cells #[.int .u8 0, .int .u8 0, .slice none 0 0, .int .u32 0, .int .u32 0, .int .u16 0, .int .u16 0, .int .u32 0, .slice none 0 0, .slice none 0 0] 71)) := (((Below.refl w.heap.size w).alloc (Nat.le_refl _) _).alloc (by simp) _).alloc (by simp; omega) _
  have hz0 : (((w.alloc (.cells #[.bool false, .int .u32 0, .int .u32 0, .int .u16 0, .int .u16 0, .int .u32 0, .slice none 0 0] 45)).alloc (.cells #[.int .u32 0, .int .u32 0, .int .u16 0, .int .u16 0, .int .u32 0, .slice none 0 0, .slice none 0 0] 59)).alloc (.cells #[.int .u8 0, .int .u8 0, .slice none 0 0, .int .u32 0, .int .u32 0, .int .u16 0, .int .u16 0, .int .u32 0, .slice none 0 0, .slice none 0 0] 71)).heap.size = w.heap.size + 3 := by simp
  have Hr1' := Hr1.out
  generalize (((w.alloc (.cells #[.bool false, .int .u32 0, .int .u32 0, .int .u16 0, .int .u16 0, .int .u32 0, .slice none 0 0] 45)).alloc (.cells #[.int .u32 0, .int .u32 0, .int .u16 0, .int .u16 0, .int .u32 0, .slice none 0 0, .slice none 0 0] 59)).alloc (.cells #[.int .u8 0, .int .u8 0, .slice none 0 0, .int .u32 0, .int .u32 0, .int .u16 0, .int .u16 0, .int .u32 0, .slice none 0 0, .slice none 0 0] 71)) = W0 at Hr1' hRi hRc hb0 hz0 ⊢
  refine (iaunmarshal (w.heap.size + 1 + 1) _ _ n c tag win out inn tsn dl W0 Hr1' (Hs.out.below hb0) (fun A n c e => by cases e; simp only; omega) Hok.out Hl.out Hlen.out HP.out Hlast.out).mono ?_
  rintro e w2 ⟨U, rv, cs, va, rfl, hU, hcs, hI⟩
  have hlc : cs.length = dl.length := by rw [← hcs]; simp
  have hown := hI.own
  rw [hlc] at hown
  obtain ⟨Av, cv, hv⟩ := own_slice hown
  subst hv
  obtain ⟨q, hq⟩ : ∃ q, q = dl.length := ⟨_, rfl⟩
  rw [← hq] at hown hI hlc
  have hR2 := Rd.of_own hown
  have hri := hRi.grown hI.bel (by intro e; injection e with e; omega)
  have hrc := hRc.grown hI.bel (by intro e; injection e with e; omega)
  have hrow := hI.row
  have m3 : w2.cell? ⟨w.heap.size + 1 + 1, 3, none⟩ = some (.int .u32 tag) := by rw [hrow.cell]; rfl
  have m4 : w2.cell? ⟨w.heap.size + 1 + 1, 4, none⟩ = some (.int .u32 win) := by rw [hrow.cell]; rfl
  have m5 : w2.cell? ⟨w.heap.size + 1 + 1, 5, none⟩ = some (.int .u16 out) := by rw [hrow.cell]; rfl
  have m6 : w2.cell? ⟨w.heap.size + 1 + 1, 6, none⟩ = some (.int .u16 inn) := by rw [hrow.cell]; rfl
  have m7 : w2.cell? ⟨w.heap.size + 1 + 1, 7, none⟩ = some (.int .u32 tsn) := by rw [hrow.cell]; rfl
  have m8 : w2.cell? ⟨w.heap.size + 1 + 1, 8, none⟩ = some (.slice Av q cv) := by rw [hrow.cell]; rfl
  have m9 : w2.cell? ⟨w.heap.size + 1 + 1, 9, none⟩ = some (.slice none 0 0) := by rw [hrow.cell]; rfl
  have v0 : w2.cell? ⟨w.heap.size + 1, 0, none⟩ = some (.int .u32 0) := by rw [hrc.cell]; rfl
  have v1 : w2.cell? ⟨w.heap.size + 1, 1, none⟩ = some (.int .u32 0) := by rw [hrc.cell]; rfl
  have v2 : w2.cell? ⟨w.heap.size + 1, 2, none⟩ = some (.int .u16 0) := by rw [hrc.cell]; rfl
  have v3 : w2.cell? ⟨w.heap.size + 1, 3, none⟩ = some (.int .u16 0) := by rw [hrc.cell]; rfl
  have v4 : w2.cell? ⟨w.heap.size + 1, 4, none⟩ = some (.int .u32 0) := by rw [hrc.cell]; rfl
  have v5 : w2.cell? ⟨w.heap.size + 1, 5, none⟩ = some (.slice none 0 0) := by rw [hrc.cell]; rfl
  have v6 : w2.cell? ⟨w.heap.size + 1, 6, none⟩ = some (.slice none 0 0) := by rw [hrc.cell]; rfl
  have f0 := hrc.frozen 0
  have f1 := hrc.frozen 1
  have f2 := hrc.frozen 2
  have f3 := hrc.frozen 3
  have f4 := hrc.frozen 4
  have f5 := hrc.frozen 5
  have f6 := hrc.frozen 6
  have HI := Lib.hid hI
  have HRi := Lib.hid hri
  have HRc := Lib.hid hrc
  have HR2 := Lib.hid hR2
  have Hq := Lib.hid hq
  have Hlc := Lib.hid hlc
  have Hcs := Lib.hid hcs
  have Hb0 := Lib.hid hb0
  have hz2 : w.heap.size + 3 ≤ w2.heap.size := by have := hI.bel.size; omega
  have hU' : w.heap.size + 3 ≤ U := by omega
  clear hI hri hrc hRi hRc hR2 hown hrow hq hlc hcs hb0 Hr1 Hr1' b1 Hb1 b0 hz0 hU
  go_upto_region 14 with fail
  have hR3 := ((((((HRc.out.set 0 (.int .u32 (tag : Int))).set 1 (.int .u32 (win : Int))).set 2 (.int .u16 (out : Int))).set 3 (.int .u16 (inn : Int))).set 4 (.int .u32 (tsn : Int))).set 5 (.slice Av q cv)).set 6 (.slice none 0 0)
  have hG3 := only_set (only_set (only_set (only_set (only_set (only_set (only_set (only_refl w2 (some (w.heap.size + 1))) 0 (.int .u32 (tag : Int))) 1 (.int .u32 (win : Int))) 2 (.int .u16 (out : Int))) 3 (.int .u16 (inn : Int))) 4 (.int .u32 (tsn : Int))) 5 (.slice Av q cv)) 6 (.slice none 0 0)
  have hz3 : (((((((w2.setCell ⟨w.heap.size + 1, 0, none⟩ (.int .u32 (tag : Int))).setCell ⟨w.heap.size + 1, 1, none⟩ (.int .u32 (win : Int))).setCell ⟨w.heap.size + 1, 2, none⟩ (.int .u16 (out : Int))).setCell ⟨w.heap.size + 1, 3, none⟩ (.int .u16 (inn : Int))).setCell ⟨w.heap.size + 1, 4, none⟩ (.int .u32 (tsn : Int))).setCell ⟨w.heap.size + 1, 5, none⟩ (.slice Av q cv)).setCell ⟨w.heap.size + 1, 6, none⟩ (.slice none 0 0)).heap.size = w2.heap.size := by simp [World.setCell]
  generalize ((((((w2.setCell ⟨w.heap.size + 1, 0, none⟩ (.int .u32 (tag : Int))).setCell ⟨w.heap.size + 1, 1, none⟩ (.int .u32 (win : Int))).setCell ⟨w.heap.size + 1, 2, none⟩ (.int .u16 (out : Int))).setCell ⟨w.heap.size + 1, 3, none⟩ (.int .u16 (inn : Int))).setCell ⟨w.heap.size + 1, 4, none⟩ (.int .u32 (tsn : Int))).setCell ⟨w.heap.size + 1, 5, none⟩ (.slice Av q cv)).setCell ⟨w.heap.size + 1, 6, none⟩ (.slice none 0 0) = w3 at hR3 hG3 hz3 ⊢
  change Row w3 (w.heap.size + 1) _ [.int .u32 (tag : Int), .int .u32 (win : Int), .int .u16 (out : Int), .int .u16 (inn : Int), .int .u32 (tsn : Int), .slice Av q cv, .slice none 0 0] at hR3
  have hside : ∀ d ∈ cs, OkK d.ty d.l ∧ d.g ≠ w.heap.size ∧ w.heap.size ≤ d.g ∧ d.g < w3.heap.size ∧ (0 < d.l.length → (∀ g, w3.heap.size ≤ g → Far d.s g) ∧ ∀ e ∈ cs, Far d.s e.g) := by
    intro d hd
    obtain ⟨a1, a2, a3, a4, a5, a6⟩ := HI.out.lies d hd
    exact ⟨a1, by omega, by omega, by omega, fun hp => ⟨fun g hg => (HI.out.all d hd).farN (by omega) hp, (a5 hp).2⟩⟩
  have HJF : Hid (JFix w3.heap.size w.heap.size q (.slice Av q cv) cs w [.bool true, .int .u32 (tag : Int), .int .u32 (win : Int), .int .u16 (out : Int), .int .u16 (inn : Int), .int .u32 (tsn : Int)]) := Lib.hid ⟨hside, by omega, by omega, fun hp g hg => HR2.out.farN (by omega) hp⟩
  have hb2 : Below w.heap.size w w2 := Hb0.out.trans ⟨HI.out.bel.os, HI.out.bel.tape, HI.out.bel.output, HI.out.bel.size, fun i hi => HI.out.bel.block i (by have := Hb0.out.size; omega) (by intro e; injection e with e; omega)⟩
  have hb3 : Below w.heap.size w w3 := below_only hb2 (by omega) hG3 (by omega)
  have hall : KAll cs w3 := fun d hd => by
    have h1 := HI.out.all d hd
    refine h1.only hG3 (by have := (HI.out.lies d hd).2.2.1; omega) ?_
    obtain ⟨_, _, _, _, _, _, _, hs⟩ := h1
    exact hs.apart HRc.out (by intro x hx b e; subst e; simp [bv] at hx)
  have hrd : Rd w3 1 q (.slice Av q cv) (cs.map Kp.v) := HR2.out.only' hG3 (HR2.out.apart HRc.out (by intro x hx hy; obtain ⟨d, _, rfl⟩ := List.mem_map.1 hx; simp [Kp.v] at hy))
  have hri := HRi.out.grown hG3 (by intro e; injection e with e; omega)
  have HJ : Hid (JInv w3.heap.size w.heap.size 45 45 [.bool true, .int .u32 (tag : Int), .int .u32 (win : Int), .int .u16 (out : Int), .int .u16 (inn : Int), .int .u32 (tsn : Int)] [.bool false, .int .u32 0, .int .u32 0, .int .u16 0, .int .u16 0, .int .u32 0, .slice none 0 0] (.slice Av q cv) q cs w 0 [] (.slice none 0 0) (w3.alloc (.cells #[.bool true, .int .u32 (tag : Int), .int .u32 (win : Int), .int .u16 (out : Int), .int .u16 (inn : Int), .int .u32 (tsn : Int), .slice none 0 0] 45))) := by
    have hb := (Below.refl w3.heap.size w3).alloc (Nat.le_refl _) (.cells #[.bool true, .int .u32 (tag : Int), .int .u32 (win : Int), .int .u16 (out : Int), .int .u16 (inn : Int), .int .u32 (tsn : Int), .slice none 0 0] 45)
    exact Lib.hid ⟨rfl, rfl, World.ownsRow_nil _ _ _ _, fun _ h => by simp at h, fun _ h => by simp at h, fun _ h => by simp at h, Row.new w3 _ _, hri.alloc _, hall.below hb, hrd.alloc _, hb3.alloc (by omega) _, by simp⟩
  have x0 : w3.cell? ⟨w.heap.size + 1, 0, none⟩ = some (.int .u32 tag) := by rw [hR3.cell]; rfl
  have x1 : w3.cell? ⟨w.heap.size + 1, 1, none⟩ = some (.int .u32 win) := by rw [hR3.cell]; rfl
  have x2 : w3.cell? ⟨w.heap.size + 1, 2, none⟩ = some (.int .u16 out) := by rw [hR3.cell]; rfl
  have x3 : w3.cell? ⟨w.heap.size + 1, 3, none⟩ = some (.int .u16 inn) := by rw [hR3.cell]; rfl
  have x4 : w3.cell? ⟨w.heap.size + 1, 4, none⟩ = some (.int .u32 tsn) := by rw [hR3.cell]; rfl
  have x5 : (w3.alloc (.cells #[.bool true, .int .u32 (tag : Int), .int .u32 (win : Int), .int .u16 (out : Int), .int .u16 (inn : Int), .int .u32 (tsn : Int), .slice none 0 0] 45)).cell? ⟨w.heap.size + 1, 5, none⟩ = some (.slice Av q cv) := by rw [(hR3.alloc _).cell]; rfl
  have hq1 : q ≤ 1000 := by have := Hq.out; have := Hl.out; omega
  have hzz : w.heap.size + 3 ≤ w3.heap.size := by omega
  obtain ⟨A', c', hv, hnc, hcm, hl0, h00, hc⟩ := HR2.out
  injection hv with e1 e2 e3
  subst e1 e3
  unfold maxLen at hcm
  clear m3 m4 m5 m6 m7 m8 m9 v0 v1 v2 v3 v4 v5 v6 f0 f1 f2 f3 f4 f5 f6 hz3 hR3 hG3 hside hb2 hb3 hall hrd hri hc h00 hl0 e2 HI HRi HRc HR2 Hb0
  go_wp2_with fail
  go_loopw [66] (fun i wr => ∃ (k : Nat) (qs : List Pm) (v : Value), k ≤ q ∧ i = .int .i64 k ∧ Hid (JInv w3.heap.size w.heap.size 45 45 [.bool true, .int .u32 (tag : Int), .int .u32 (win : Int), .int .u16 (out : Int), .int .u16 (inn : Int), .int .u32 (tsn : Int)] [.bool false, .int .u32 0, .int .u32 0, .int .u16 0, .int .u16 0, .int .u32 0, .slice none 0 0] (.slice Av q cv) q cs w k qs v wr)) (fun i _ => q - (intOf i).toNat)
  case atStart => exact ⟨0, [], _, Nat.zero_le _, rfl, HJ⟩
  case round =>
    clear HJ x0 x1 x2 x3 x4 x5
    obtain ⟨k, qs, v, hk, rfl, HJ⟩ := hrel
    by_cases hlt : k < q
    · have hx : cs[k]? = some (cs[k]'(by have := Hlc.out; omega)) := List.getElem?_eq_getElem _
      generalize cs[k]'(by have := Hlc.out; omega) = c at hx
      have hm := List.mem_of_getElem? hx
      obtain ⟨hok, hne, hlo, hlt2, hcf⟩ := HJF.out.side c hm
      obtain ⟨A', c', hv, hnc', hcm', hl0, h00, hc⟩ := HJ.out.rd
      injection hv with e1 e2 e3
      subst e1 e3
      obtain ⟨g, o, rfl, hg⟩ := hc (by omega)
      have hcell : wr.cell? ⟨g, o + k, none⟩ = some (.iface (kT c.ty) (.pointer (some ⟨c.g, 0, none⟩))) := hg k _ (by simp [hx, Kp.v])
      have hmeth : ∀ (a : Addr) (w : World), (method 254 (kT c.ty) (.pointer (some a)) "loop.example/pub-g03037/pub/sctp.marshal").run Tryd.prog w = .ok (kF c.ty, .pointer (some a)) w := by
        rcases hok.1 with e | ⟨e, _⟩ <;> rw [e] <;> intro a w
        · exact (show (method 254 (kT 7) (.pointer (some a)) "loop.example/pub-g03037/pub/sctp.marshal").run Tryd.prog w = .ok (kF 7, .pointer (some a)) w by kernel_rfl)
        · exact (show (method 254 (kT 49152) (.pointer (some a)) "loop.example/pub-g03037/pub/sctp.marshal").run Tryd.prog w = .ok (kF 49152, .pointer (some a)) w by kernel_rfl)
      have henter : ∀ (v : Value) (w : World), (callFunc (kF c.ty) #[v]).run Tryd.prog w = .ok (.enter (kF c.ty) #[v]) w := by
        rcases hok.1 with e | ⟨e, _⟩ <;> rw [e] <;> intro v w
        · exact (show (callFunc (kF 7) #[v]).run Tryd.prog w = .ok (.enter (kF 7) #[v]) w by kernel_rfl)
        · exact (show (callFunc (kF 49152) #[v]).run Tryd.prog w = .ok (.enter (kF 49152) #[v]) w by kernel_rfl)
      have HX := Lib.hid hx
      have HMc := Lib.hid hm
      have Hcal := Lib.hid (kmarshal c wr (HJ.out.all c hm) hok (fun hp => (hcf hp).2 c hm))
      generalize kT c.ty = T at hcell hmeth
      generalize kF c.ty = F at hmeth Hcal henter
      generalize hcg' : c.g = G at hcell Hcal
      have HG' := Lib.hid hcg'
      have Hok' := Lib.hid hok
      clear hcg' hx hm hc hg h00 hl0 e2 hcf hne hlo hlt2 hok
      go_wp2_with fail
      refine Hcal.out.mono ?_
      rintro e w7 ⟨A2, n2, c2, rfl, hS2, hR2, hG2, hN2⟩
      have hM2 := HJ.out.marshal HJF.out HMc.out hG2 hR2
      have HJ2 := Lib.hid hM2
      have hlS := hS2.len
      rw [tlv_length] at hlS
      have HN2 : Hid (∀ g, g < w3.heap.size + 1 → Far (.slice A2 n2 c2) g) := Lib.hid (fun g hg => hN2 g (by have := HJ.out.size; omega))
      have HO2 : Hid (∀ j, v.ownBlock = some j → Far (.slice A2 n2 c2) j) := Lib.hid (fun j hj => hN2 j (HJ.out.own.lt j hj).2)
      obtain ⟨A', c', hv, hnc2, hcm2, hl0, h00, hc⟩ := id hS2
      injection hv with e1 e2 e3
      subst e1 e3
      obtain ⟨g2, o2, rfl, _⟩ := hc (by rw [tlv_length]; omega)
      have hnc2' : n2 ≤ c2 := by rw [tlv_length] at hnc2; omega
      have HS2 := Lib.hid hS2
      have HlS := Lib.hid hlS
      have hty2 : Hid (c.ty < 65536) := Lib.hid (by obtain ⟨h | ⟨h, _⟩, _⟩ := Hok'.out <;> omega)
      have i4 : (4 : Int) ≤ (n2 : Int) := by omega
      have hS4 := hS2.sub 4 (n2 - 4) (by omega)
      rw [show ((tlv c.ty c.l).drop 4).take (n2 - 4) = c.l by rw [hlS]; simp [tlv, be_two]] at hS4
      clear hR2 hG2 hN2 hM2 hcell hmeth henter Hcal HJ hc hl0 h00 e2 hcm2 hnc2 hS2 hlS
      go_upto_region 21 with fail
      have hif : ∀ x ∈ [.bool true, .int .u32 (tag : Int), .int .u32 (win : Int), .int .u16 (out : Int), .int .u16 (inn : Int), .int .u32 (tsn : Int)] ++ [v], ∀ T u, x ≠ .iface T u := by
        obtain ⟨Aw, cw, hvw⟩ := own_slice HJ2.out.own
        subst hvw
        intro x hx T u e
        subst e
        simp at hx
      have Hif := Lib.hid hif
      have kk0 : w7.cell? ⟨w3.heap.size, 6, none⟩ = some v := by rw [HJ2.out.row.cell]; rfl
      clear hif
      obtain ⟨cty, hcty⟩ : ∃ cty : Nat, cty = c.ty := ⟨_, rfl⟩
      have Hcty := Lib.hid hcty
      clear hcty
      by_cases hc4 : c2 = 4
      · subst hc4
        obtain rfl : n2 = 4 := by omega
        simp only [if_true, Nat.sub_self] at hS4
        have HS4 := Lib.hid hS4
        clear hS4
        go_region_law (first
          | (go_simp; go_at_call 27; refine (get16_be _ _ _ c.ty _ _ HS2.out.drew hty2.out).mono ?_; rintro z w8 ⟨rfl, hb4⟩; have hr4 := HJ2.out.row.drew.below hb4 HJ2.out.row.lt; have y4 : w8.cell? ⟨w3.heap.size, 6, none⟩ = some v := (by rw [hr4.cell]; rfl); have y4' : (w8.alloc (.cells #[.int .u16 (c.ty : Int), .slice (some ⟨g2, o2, none⟩) 0 0] 61)).cell? ⟨w3.heap.size, 6, none⟩ = some v := (by rw [(hr4.alloc _).cell]; rfl))
          | (refine step_append_rd _ rfl _ _ rfl zpT (w3.heap.size + 1) v k _ rfl ((own_below HJ2.out.own.drew hb4).alloc _) _ 1 [_, _] rfl (Rd.lit2 w8 61 (.int .u16 (c.ty : Int)) (.slice (some ⟨g2, o2, none⟩) 0 0) (by simp)) (by simp [Value.oneCell']) (by unfold maxLen; omega) (by omega) (by have h1 := HJ2.out.size; have h2 : w7.heap.size ≤ w8.heap.size := hb4.size; simp only [World.size_alloc]; omega) ?_; intro v5 w5 hown5 hg5 hat5; obtain ⟨A5, c5, e5⟩ := own_slice hown5; subst e5; have hr5 := (hr4.alloc (.cells #[.int .u16 (c.ty : Int), .slice (some ⟨g2, o2, none⟩) 0 0] 61)).grown hg5 (own_apart HJ2.out.own (by omega)).symm; have y5 : w5.cell? ⟨w3.heap.size, 6, none⟩ = some v := (by rw [hr5.cell]; rfl); have f5 := hr5.frozen 6))
        all_goals
          have hJ8 := HJ2.out.drew.below HJF.out hb4
          have HJ9 := Lib.hid (hJ8.append HJF.out (i := 6) rfl Hif.out (ds_get HX.out) (HS4.out.drew.below hb4) (fun _ => ⟨fun g hg A n c e => by cases e; exact HN2.out g hg ⟨g2, o2, none⟩ _ _ rfl, fun j hj A n c e => by cases e; exact HO2.out j hj ⟨g2, o2, none⟩ _ _ rfl⟩) hown5 hg5 hat5)
          clear hJ8 hown5 hg5 hat5 hr5 hr4 y4 y4' y5 f5 hb4 kk0
          go_wp2
          go_roundw
          case rel => exact ⟨k + 1, _, _, by omega, by go_num, HJ9⟩
          case measure => simp [intOf]; omega
      · rw [if_neg hc4] at hS4
        have HS4 := Lib.hid hS4
        clear hS4
        go_region_law (first
          | (go_simp; go_at_call 27; refine (get16_be _ _ _ c.ty _ _ HS2.out.drew hty2.out).mono ?_; rintro z w8 ⟨rfl, hb4⟩; have hr4 := HJ2.out.row.drew.below hb4 HJ2.out.row.lt; have y4 : w8.cell? ⟨w3.heap.size, 6, none⟩ = some v := (by rw [hr4.cell]; rfl); have y4' : (w8.alloc (.cells #[.int .u16 (c.ty : Int), .slice (some ⟨g2, o2 + 4, none⟩) (n2 - 4) (c2 - 4)] 61)).cell? ⟨w3.heap.size, 6, none⟩ = some v := (by rw [(hr4.alloc _).cell]; rfl))
          | (refine step_append_rd _ rfl _ _ rfl zpT (w3.heap.size + 1) v k _ rfl ((own_below HJ2.out.own.drew hb4).alloc _) _ 1 [_, _] rfl (Rd.lit2 w8 61 (.int .u16 (c.ty : Int)) (.slice (some ⟨g2, o2 + 4, none⟩) (n2 - 4) (c2 - 4)) (by simp)) (by simp [Value.oneCell']) (by unfold maxLen; omega) (by omega) (by have h1 := HJ2.out.size; have h2 : w7.heap.size ≤ w8.heap.size := hb4.size; simp only [World.size_alloc]; omega) ?_; intro v5 w5 hown5 hg5 hat5; obtain ⟨A5, c5, e5⟩ := own_slice hown5; subst e5; have hr5 := (hr4.alloc (.cells #[.int .u16 (c.ty : Int), .slice (some ⟨g2, o2 + 4, none⟩) (n2 - 4) (c2 - 4)] 61)).grown hg5 (own_apart HJ2.out.own (by omega)).symm; have y5 : w5.cell? ⟨w3.heap.size, 6, none⟩ = some v := (by rw [hr5.cell]; rfl); have f5 := hr5.frozen 6))
        all_goals
          have hJ8 := HJ2.out.drew.below HJF.out hb4
          have HJ9 := Lib.hid (hJ8.append HJF.out (i := 6) rfl Hif.out (ds_get HX.out) (HS4.out.drew.below hb4) (fun _ => ⟨fun g hg A n c e => by cases e; exact HN2.out g hg ⟨g2, o2, none⟩ _ _ rfl, fun j hj A n c e => by cases e; exact HO2.out j hj ⟨g2, o2, none⟩ _ _ rfl⟩) hown5 hg5 hat5)
          clear hJ8 hown5 hg5 hat5 hr5 hr4 y4 y4' y5 f5 hb4 kk0
          go_wp2
          go_roundw
          case rel => exact ⟨k + 1, _, _, by omega, by go_num, HJ9⟩
          case measure => simp [intOf]; omega
    · obtain rfl : k = q := by omega
      have hO := HJ.out.own
      obtain ⟨Aw, cw, hv⟩ := own_slice hO
      subst hv
      have hR := HJ.out.res
      have hT := HJ.out.row
      have r0 : wr.cell? ⟨w.heap.size, 0, none⟩ = some (.bool false) := by rw [hR.cell]; rfl
      have r1 : wr.cell? ⟨w.heap.size, 1, none⟩ = some (.int .u32 0) := by rw [hR.cell]; rfl
      have r2 : wr.cell? ⟨w.heap.size, 2, none⟩ = some (.int .u32 0) := by rw [hR.cell]; rfl
      have r3 : wr.cell? ⟨w.heap.size, 3, none⟩ = some (.int .u16 0) := by rw [hR.cell]; rfl
      have r4 : wr.cell? ⟨w.heap.size, 4, none⟩ = some (.int .u16 0) := by rw [hR.cell]; rfl
      have r5 : wr.cell? ⟨w.heap.size, 5, none⟩ = some (.int .u32 0) := by rw [hR.cell]; rfl
      have r6 : wr.cell? ⟨w.heap.size, 6, none⟩ = some (.slice none 0 0) := by rw [hR.cell]; rfl
      have f0 := hR.frozen 0
      have f1 := hR.frozen 1
      have f2 := hR.frozen 2
      have f3 := hR.frozen 3
      have f4 := hR.frozen 4
      have f5 := hR.frozen 5
      have f6 := hR.frozen 6
      have y0 : wr.cell? ⟨w3.heap.size, 0, none⟩ = some (.bool true) := by rw [hT.cell]; rfl
      have y1 : wr.cell? ⟨w3.heap.size, 1, none⟩ = some (.int .u32 tag) := by rw [hT.cell]; rfl
      have y2 : wr.cell? ⟨w3.heap.size, 2, none⟩ = some (.int .u32 win) := by rw [hT.cell]; rfl
      have y3 : wr.cell? ⟨w3.heap.size, 3, none⟩ = some (.int .u16 out) := by rw [hT.cell]; rfl
      have y4 : wr.cell? ⟨w3.heap.size, 4, none⟩ = some (.int .u16 inn) := by rw [hT.cell]; rfl
      have y5 : wr.cell? ⟨w3.heap.size, 5, none⟩ = some (.int .u32 tsn) := by rw [hT.cell]; rfl
      have y6 : wr.cell? ⟨w3.heap.size, 6, none⟩ = some (.slice Aw k cw) := by rw [hT.cell]; rfl
      have S := Lib.hid (Rd.of_own hO)
      have HF := Lib.hid (own_far hO (g := w.heap.size) (by omega))
      have HRR := Lib.hid hR
      have HJJ := HJ
      clear hO hR hT
      go_wp2
      have hR6 := ((((((HRR.out.set 0 (.bool true)).set 1 (.int .u32 (tag : Int))).set 2 (.int .u32 (win : Int))).set 3 (.int .u16 (out : Int))).set 4 (.int .u16 (inn : Int))).set 5 (.int .u32 (tsn : Int))).set 6 (.slice Aw k cw)
      have hO6 := only_set (only_set (only_set (only_set (only_set (only_set (only_set (only_refl wr (some w.heap.size)) 0 (.bool true)) 1 (.int .u32 (tag : Int))) 2 (.int .u32 (win : Int))) 3 (.int .u16 (out : Int))) 4 (.int .u16 (inn : Int))) 5 (.int .u32 (tsn : Int))) 6 (.slice Aw k cw)
      refine bodyPost_ret (results_cell_tmp_row rfl _ _ w.heap.size _ _ (0, 0) _ rfl hR6 Tryd.underlying45 rfl zi_info) rfl ?_
      have hcon : qs.map Pm.c = dl := by rw [HJJ.out.con, List.take_of_length_le (by simp [ds, Hlc.out])]; exact Hcs.out
      refine ⟨Aw, cw, qs, by rw [← Hq.out]; rfl, hcon, by rw [HJJ.out.len, Hq.out], by rw [← Hq.out]; exact S.out.only' hO6 (fun _ => HF.out), fun p hp => (HJJ.out.vals p hp).only' hO6 (fun hl => HJJ.out.old p hp hl _ (by omega)), ?_⟩
      exact below_only HJJ.out.bel (by have := HJJ.out.size; omega) hO6 (Nat.le_refl _)

theorem zzinitof_any (ack : Bool) (ty0 : Nat) (hty0 : ty0 = if ack then 2 else 1) (A : Option Addr) (n c : Nat) (tag win out inn tsn : Nat) (dl : List (Int × List UInt8)) (w : World) (hs : Sl w (.slice A n c) (chunk ty0 0 (ihead tag win out inn tsn ++ kflat dl))) (hok : IOk tag win out inn tsn) (hl : dl.length ≤ 1000) (hlen : (kflat dl).length ≤ 60000) (hp : ∀ d ∈ dl, ∃ ty : Nat, d.1 = (ty : Int) ∧ OkK ty d.2) (hlast : ∀ d, dl[dl.length - 1]? = some d → 0 < d.2.length) :
    Calls Tryd.prog 14 #[.slice A n c] w (RetIn w .u16 .u16 .nilIface ack tag win out inn tsn dl) := by
  subst hty0
  cases ack
  · exact zzinitof_in A n c tag win out inn tsn dl w hs hok hl hlen hp hlast
  · exact zzinitof_ia A n c tag win out inn tsn dl w hs hok hl hlen hp hlast
end Go.Proofs.YtokkhfjlbnochaaDoor
