/- Contracts of DataOf: a chunk of user data is read. Conditions: the numbers fit; it has user data. -/
import Derived.Test.YtnaihmmfnffejaaDoorDatU
import Derived.Laws.ResultCell
namespace Go.Proofs.YtnaihmmfnffejaaDoor
open Go.RowKit Go.Lib

theorem results_cell_tmp_row {P : Program} {fn : Func} {p u : Tmp} {ty : TypeId} (h : fn.results = #[.cell p ty, .tmp u]) (tmps : Array Value) (w : World) (g : Nat) (t : TypeId) (cs : Array Value) (fr : Nat × Nat) (d : TypeDesc)
    (hp : tmps.getD p undef = .pointer (some ⟨g, 0, none⟩)) (hg : w.heap[g]? = some (.cells cs t fr))
    (hu : P.underlying ty = some d) (hd : (match d with | .struct _ | .array _ _ => true | _ => false) = true) (hi : (P.info? ty).map (·.size) = some cs.size) :
    (results fn tmps).run P w = .ok (.tuple #[.agg cs, tmps.getD u undef]) w := by
  rw [results_cell_tmp h, hp]
  simp [asAddr, run_loadVar_row w g t ty cs fr d hg hu hd hi]

theorem zz9 (w : World) (g : Nat) (u b e i : Bool) (tsn st sq pr : Int) (A : Option Addr) (n c : Nat) : w.grownBy (World.setCell (World.setCell (World.setCell (World.setCell (World.setCell (World.setCell (World.setCell (World.setCell (World.setCell w ⟨g, 0, none⟩ (.bool u)) ⟨g, 1, none⟩ (.bool b)) ⟨g, 2, none⟩ (.bool e)) ⟨g, 3, none⟩ (.bool i)) ⟨g, 4, none⟩ (.int .u32 tsn)) ⟨g, 5, none⟩ (.int .u16 st)) ⟨g, 6, none⟩ (.int .u16 sq)) ⟨g, 7, none⟩ (.int .u32 pr)) ⟨g, 8, none⟩ (.slice A n c)) (some g) := only_set9 w g _ _ _ _ _ _ _ _ _

set_option maxRecDepth 20000 in
set_option maxHeartbeats 1600000 in
theorem zzdataof_any (A : Option Addr) (n c : Nat) (u b e i : Bool) (tsn st sq pr : Nat) (l : List UInt8) (w : World) (hs : Sl w (.slice A n c) (chunk 0 (fl u b e i) (body tsn st sq pr l)))
    (hl : l.length ≤ 4096) (hl0 : 0 < l.length) (h1 : tsn < 4294967296) (h2 : st < 65536) (h3 : sq < 65536) (h4 : pr < 4294967296) :
    Calls Tryd.prog 58 #[.slice A n c] w fun z w' =>
      ∃ A2 n2 c2, z = .returned (.tuple #[.agg #[.bool u, .bool b, .bool e, .bool i, .int .u32 tsn, .int .u16 st, .int .u16 sq, .int .u32 pr, .slice A2 n2 c2], .nilIface]) ∧ Sl w' (.slice A2 n2 c2) l ∧ Below w.heap.size w w' := by
  have hf : Far (.slice A n c) (w.heap.size + 1) := hs.far (by rw [chunk_length]; omega) (by omega)
  have Hs := Lib.hid hs
  have Hf := Lib.hid hf
  have Hl := Lib.hid hl
  have Hl0 := Lib.hid hl0
  have H1 := Lib.hid h1
  have H2 := Lib.hid h2
  have H3 := Lib.hid h3
  have H4 := Lib.hid h4
  clear hs hf hl hl0 h1 h2 h3 h4
  go_enter Tryd.func58, Tryd.ntmps58
  go_wp2_with fail
  refine (dtunmarshal (w.heap.size + 1) _ A n c u b e i tsn st sq pr l _ (Row.new' _ _ _ (by simp)) ((Hs.out.alloc _).alloc _) Hf.out Hl.out Hl0.out H1.out H2.out H3.out H4.out).mono ?_
  rintro z w2 ⟨ty, f, raw, A2, n2, c2, rfl, hr2, hs2, hg2⟩
  have hr0 := ((Row.new w 97 #[.bool false, .bool false, .bool false, .bool false, .int .u32 0, .int .u16 0, .int .u16 0, .int .u32 0, .slice none 0 0]).alloc _).grown hg2 (by intro e; injection e with e; omega)
  have hb2 : Below w.heap.size w w2 := below_only (((Below.refl w.heap.size w).alloc (Nat.le_refl _) _).alloc (by simp) _) (by simp; omega) hg2 (by omega)
  have Hr2 := Lib.hid hr2
  have Hs2 := Lib.hid hs2
  have Hr0 := Lib.hid hr0
  have Hb2 := Lib.hid hb2
  have k := pay_get hr2
  clear hr2 hs2 hr0 hb2 hg2
  go_wp2_with fail
  refine wp_region_tail 37 (by kernel_rfl) (by kernel_rfl) ?_
  simp only [List.take_succ_cons, List.take_zero, List.drop_succ_cons, List.drop_zero]
  repeat still_step
  refine wpStill_nil ?_
  refine wpList_store_row rfl _ _ _ rfl w.heap.size #[.bool u, .bool b, .bool e, .bool i, .int .u32 tsn, .int .u16 st, .int .u16 sq, .int .u32 pr, .slice A2 n2 c2] rfl rfl _ _ Hr0.out.drew zz_info rfl (by simp [Value.oneCell']) ?_
  have hR : Row (w2.drew.setRow w.heap.size #[.bool u, .bool b, .bool e, .bool i, .int .u32 tsn, .int .u16 st, .int .u16 sq, .int .u32 pr, .slice A2 n2 c2]) w.heap.size 97 [.bool u, .bool b, .bool e, .bool i, .int .u32 tsn, .int .u16 st, .int .u16 sq, .int .u32 pr, .slice A2 n2 c2] := setRow_heap _ _ _ _ _ _ Hr0.out.drew
  have hf3 := (Hs2.out.drew.apart Hr0.out.drew (by intro x hx b; simp only [List.mem_cons, List.not_mem_nil, or_false] at hx; rcases hx with rfl | rfl | rfl | rfl | rfl | rfl | rfl | rfl | rfl <;> simp [bv]))
  have hO : w2.drew.grownBy (w2.drew.setRow w.heap.size #[.bool u, .bool b, .bool e, .bool i, .int .u32 tsn, .int .u16 st, .int .u16 sq, .int .u32 pr, .slice A2 n2 c2]) (some w.heap.size) := ⟨rfl, rfl, rfl, by simp [World.setRow], fun j _ hj => setRow_other _ _ _ _ (fun e => hj (by rw [e]))⟩
  have hS := Hs2.out.drew.only' hO hf3
  have hB := below_only Hb2.out.drew Hb2.out.size hO (Nat.le_refl _)
  clear hf3 hO k
  generalize w2.drew.setRow w.heap.size #[.bool u, .bool b, .bool e, .bool i, .int .u32 tsn, .int .u16 st, .int .u16 sq, .int .u32 pr, .slice A2 n2 c2] = W4 at hR hS hB ⊢
  have HR := Lib.hid hR
  have HS := Lib.hid hS
  have HB := Lib.hid hB
  clear hR hS hB
  go_wp2
  refine bodyPost_ret (results_cell_tmp_row rfl _ _ w.heap.size _ _ (0, 0) _ rfl HR.out Tryd.underlying97 rfl zz_info) rfl ?_
  exact ⟨A2, n2, c2, rfl, HS.out, HB.out⟩
end Go.Proofs.YtnaihmmfnffejaaDoor
