/- The contracts of newReceivePayloadQueue and init. No condition. -/
import Derived.Test.YtbmnpadpjbcljaaDoorRvN
namespace Go.Proofs.YtbmnpadpjbcljaaDoor
open Go.RowKit Go.Lib

theorem lT : ElT Tryd.prog 51 54 (.int .u64 0) 1 8 := ⟨Tryd.underlying51, by kernel_rfl, rfl, by decide⟩

def zwsN (n : Nat) : List Nat := List.replicate n 0
/-- The queue's words, all 0. -/
def zws : List Nat := zwsN 625
theorem zwsN_cells (n : Nat) : List.replicate n (Value.int .u64 0) = u64s (zwsN n) := by simp [u64s, zwsN]
theorem zwsN_set (n i : Nat) : (u64s (zwsN n)).set i (.int .u64 0) = u64s (zwsN n) := by
  rw [show (Value.int .u64 0) = .int .u64 ((0 : Nat) : Int) by rfl, u64s_set]
  congr 1
  unfold zwsN
  rw [List.set_replicate_self]
theorem zws_set (i : Nat) : (u64s zws).set i (.int .u64 0) = u64s zws := zwsN_set 625 i
theorem zwsN_get (n k : Nat) : (zwsN n).getD k 0 = 0 := by
  unfold zwsN
  rw [List.getD_eq_getElem?_getD, List.getElem?_replicate]
  split <;> simp
theorem zws_cell (i : Nat) (h : i < 625) : (u64s zws)[i]? = some (.int .u64 0) := by
  have h1 : (zwsN 625)[i]? = some 0 := by
    unfold zwsN
    rw [List.getElem?_replicate, if_pos h]
  exact u64s_get h1
theorem zws_ok (first : Nat) : MaskOk first zws (fun _ => false) := by
  refine ⟨List.length_replicate, fun w hw => ?_, fun d _ _ => ?_⟩
  · have := List.eq_of_mem_replicate hw
    omega
  · unfold bitAt zws
    rw [zwsN_get]
    exact Nat.zero_testBit _

theorem wpList_make_zws {w : World} {ops : Array Oper} {rest : List Oper} {o : Oper} {a : Act} {Q : Exit → Act → World → Prop}
    (hg : o.guard = none) (l c : Operand) (hop : o.op = Op.makeSlice 51 l c) (hl : a.eval l = .int .u32 625) (hc : a.eval c = .int .u32 625)
    (hK : ∀ w', Row w' w.heap.size 54 (u64s zws) → Below w.heap.size w w' → wpList Tryd.prog ops Q rest (a.put o.dst (.slice (some ⟨w.heap.size, 0, none⟩) 625 625)) w') :
    wpList Tryd.prog ops Q (o :: rest) a w := by
  refine wpList_make_row w hg l c _ hop lT rfl .u32 .u32 625 625 625 hl hc rfl rfl (by omega) (by unfold maxLen; omega) fun w' h hb => hK w' ?_ hb
  have e := zwsN_cells 625
  unfold zws
  rw [← e]
  exact h

/-- A new queue. -/
def NewQ (w : World) (e : Ending) (w' : World) : Prop :=
  ∃ gq gm, e = .returned (.pointer (some ⟨gq, 0, none⟩)) ∧ Row w' gq 53 [.int .u32 0, .int .i64 0, .slice (some ⟨gm, 0, none⟩) 625 625, .slice none 0 0, .int .u32 40000, .int .u32 0] ∧ Row w' gm 54 (u64s zws) ∧ Below w.heap.size w w' ∧ w.heap.size ≤ gm ∧ gm < gq

set_option maxRecDepth 20000 in
theorem newq_any (w : World) : Calls Tryd.prog 9 #[.int .u32 40000] w (NewQ w) := by
  go_enter Tryd.func9, Tryd.ntmps9
  go_wp2_with (at_make; refine wpList_make_zws rfl _ _ rfl rfl rfl ?_)
  intro w1 hrow hb1
  have HR := Lib.hid hrow
  have HB := Lib.hid hb1
  have hl := hrow.lt
  clear hrow hb1
  go_wp2
  go_ret
  exact ⟨w1.heap.size, w.heap.size, rfl, Row.new _ _ _, HR.out.alloc _, HB.out.alloc HB.out.size _, Nat.le_refl _, hl⟩

/-- The queue has begun: nothing has come. -/
def Begun (first gq gm : Nat) (t tm : TypeId) (w : World) (e : Ending) (w' : World) : Prop :=
  e = .returned (.tuple #[]) ∧ Row w' gq t (qcells first 0 0 0 gm (.slice none 0 0)) ∧ Row w' gm tm (u64s zws) ∧ ∃ w1, w.grownBy w1 (some gq) ∧ ∃ w2, w1.grownBy w2 (some gm) ∧ w2.grownBy w' (some gq)

set_option maxRecDepth 20000 in
theorem init_any (first gq gm : Nat) (t tm : TypeId) (w : World) (hf : first < 4294967296) (hne : gq ≠ gm) (hr : Row w gq t [.int .u32 0, .int .i64 0, .slice (some ⟨gm, 0, none⟩) 625 625, .slice none 0 0, .int .u32 40000, .int .u32 0]) (hm : Row w gm tm (u64s zws)) :
    Calls Tryd.prog 10 #[.pointer (some ⟨gq, 0, none⟩), .int .u32 (first : Int)] w (Begun first gq gm t tm w) := by
  have k0 : w.cell? ⟨gq, 0, none⟩ = some (.int .u32 0) := by rw [hr.cell]; rfl
  have k1 : w.cell? ⟨gq, 1, none⟩ = some (.int .i64 0) := by rw [hr.cell]; rfl
  have k2 : w.cell? ⟨gq, 2, none⟩ = some (.slice (some ⟨gm, 0, none⟩) 625 625) := by rw [hr.cell]; rfl
  have k5 : w.cell? ⟨gq, 5, none⟩ = some (.int .u32 0) := by rw [hr.cell]; rfl
  have f0 := hr.frozen 0
  have f1 := hr.frozen 1
  have f5 := hr.frozen 5
  have hne' : ¬ gm = gq := fun e => hne e.symm
  have Hr := Lib.hid hr
  have Hm := Lib.hid hm
  clear hr hm
  go_enter Tryd.func10, Tryd.ntmps10
  go_wp2_with fail
  have hR := ((Hr.out.set 5 (.int .u32 (first : Int))).set 0 (.int .u32 (first : Int))).set 1 (.int .i64 0)
  have hM := ((Hm.out.far (p := ⟨gq, 5, none⟩) hne' (.int .u32 (first : Int))).far (p := ⟨gq, 0, none⟩) hne' (.int .u32 (first : Int))).far (p := ⟨gq, 1, none⟩) hne' (.int .i64 0)
  have hG := only_set (only_set (only_set (only_refl w (some gq)) 5 (.int .u32 (first : Int))) 0 (.int .u32 (first : Int))) 1 (.int .i64 0)
  generalize ((w.setCell ⟨gq, 5, none⟩ (.int .u32 (first : Int))).setCell ⟨gq, 0, none⟩ (.int .u32 (first : Int))).setCell ⟨gq, 1, none⟩ (.int .i64 0) = w1 at hR hM hG ⊢
  change Row w1 gq t [.int .u32 (first : Int), .int .i64 0, .slice (some ⟨gm, 0, none⟩) 625 625, .slice none 0 0, .int .u32 40000, .int .u32 (first : Int)] at hR
  have HR := Lib.hid hR
  have HM := Lib.hid hM
  have HG := Lib.hid hG
  clear hR hM hG k0 k1 k2 k5 f0 f1 f5
  go_loopw [21] (fun i wr => ∃ k : Nat, k ≤ 625 ∧ i = .int .i64 k ∧ Hid (Row wr gm tm (u64s zws)) ∧ Hid (w1.grownBy wr (some gm))) (fun i _ => 625 - (intOf i).toNat)
  case atStart => exact ⟨0, by omega, rfl, HM, Lib.hid (only_refl _ _)⟩
  case round =>
    obtain ⟨k, hk, rfl, HM2, HG2⟩ := hrel
    have hR2 := HR.out.grown HG2.out (by intro e; injection e with e; exact hne e)
    have k2 : wr.cell? ⟨gq, 2, none⟩ = some (.slice (some ⟨gm, 0, none⟩) 625 625) := by rw [hR2.cell]; rfl
    have k3 : wr.cell? ⟨gq, 3, none⟩ = some (.slice none 0 0) := by rw [hR2.cell]; rfl
    have f3 := hR2.frozen 3
    by_cases hlt : k < 625
    · have kc : wr.cell? ⟨gm, k, none⟩ = some (.int .u64 0) := by rw [HM2.out.cell]; exact zws_cell k hlt
      have fc := HM2.out.frozen k
      have HM3 : Hid (Row (wr.setCell ⟨gm, k, none⟩ (.int .u64 0)) gm tm (u64s zws)) := Lib.hid (by have h := HM2.out.set k (.int .u64 0); rw [zws_set] at h; exact h)
      have HG3 := Lib.hid (only_set HG2.out k (.int .u64 0))
      clear hR2
      go_wp2
      go_roundw
      case rel => exact ⟨k + 1, by omega, by go_num, HM3, HG3⟩
      case measure => simp [intOf]; omega
    · obtain rfl : k = 625 := by omega
      have HR2 := Lib.hid hR2
      clear hR2
      go_wp2
      go_end0
      have e : tsnOf first 0 = first := by unfold tsnOf; omega
      refine ⟨rfl, ?_, HM2.out.far (p := ⟨gq, 3, none⟩) hne' _, w1, HG.out, wr, HG2.out, only_set (only_refl _ _) 3 _⟩
      have h := HR2.out.set 3 (.slice none 0 0)
      unfold qcells
      rw [e]
      exact h
end Go.Proofs.YtbmnpadpjbcljaaDoor
