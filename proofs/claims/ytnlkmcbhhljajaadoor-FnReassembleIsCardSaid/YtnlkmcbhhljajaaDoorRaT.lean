/- The contracts of sortChunksByTSN and sortChunksBySSN. Conditions: the numbers lie near each other. -/
import Derived.Test.YtnlkmcbhhljajaaDoorRaS
namespace Go.Proofs.YtnlkmcbhhljajaaDoor
open Go.Shelf Go.RowKit Go.Lib Go.Sort

/-- A chunk or a set in memory: its block, and the number that it is sorted by. -/
abbrev Ref := Nat × Nat
def rp (r : Ref) : Value := .pointer (some ⟨r.1, 0, none⟩)
/-- A reference by its place on a list. -/
def at' {m : Nat} (L : List Ref) (i : Fin (m + 1)) : Ref := L.getD i.1 (0, 0)
def encR {m : Nat} (L : List Ref) (i : Fin (m + 1)) : Value := rp (at' L i)
def ltR {m : Nat} (L : List Ref) (i j : Fin (m + 1)) : Bool := decide ((at' L i).2 < (at' L j).2)
theorem swoR {m : Nat} (L : List Ref) : SWO (ltR (m := m) L) where
  irrefl x := by simp [ltR]
  trans x y z h1 h2 := by simp only [ltR, decide_eq_true_eq] at *; omega
  ntrans x y z h1 h2 := by simp only [ltR, decide_eq_false_iff_not] at *; omega
def ids (m : Nat) : Array (Fin (m + 1)) := Array.ofFn id
theorem ids_size (m : Nat) : (ids m).size = m + 1 := by simp [ids]
theorem ids_map {m : Nat} {L : List Ref} (h : L.length = m + 1) : (ids m).toList.map (encR L) = L.map rp := by
  apply List.ext_getElem?
  intro i
  simp only [ids, Array.toList_ofFn, List.getElem?_map, List.getElem?_ofFn]
  by_cases hi : i < m + 1
  · rw [dif_pos hi, List.getElem?_eq_getElem (by omega)]
    simp [encR, at', hi, h]
  · rw [dif_neg hi, List.getElem?_eq_none (by omega)]
    rfl
theorem ids_refs {m : Nat} {L : List Ref} (h : L.length = m + 1) : (ids m).toList.map (at' L) = L := by
  apply List.ext_getElem?
  intro i
  simp only [ids, Array.toList_ofFn, List.getElem?_map, List.getElem?_ofFn]
  by_cases hi : i < m + 1
  · rw [dif_pos hi, List.getElem?_eq_getElem (by omega)]
    simp [at', hi, h]
  · rw [dif_neg hi, List.getElem?_eq_none (by omega)]
    rfl

/-- What the sort leaves: a permutation in order. -/
theorem sorted_refs {m : Nat} {L : List Ref} (h : L.length = m + 1) {d' : Array (Fin (m + 1))} {k : Nat} (hk : k = (ids m).size) (hp : PermIn 0 k (ids m) d') (hs : SortedIn (ltR L) 0 k d') :
    (d'.toList.map (at' L)).Perm L ∧ (d'.toList.map (at' L)).Pairwise (fun a b => a.2 ≤ b.2) := by
  subst hk
  obtain ⟨h1, _, h3⟩ := hp
  have e1 : (d'.extract 0 (ids m).size) = d' := by rw [← h1]; exact Array.extract_size
  have e2 : ((ids m).extract 0 (ids m).size) = ids m := Array.extract_size
  rw [e1, e2] at h3
  refine ⟨by have := h3.map (at' L); rwa [ids_refs h] at this, ?_⟩
  rw [List.pairwise_map, List.pairwise_iff_getElem]
  intro i j hi hj hij
  have hi' : i < d'.size := by simpa using hi
  have hj' : j < d'.size := by simpa using hj
  have := hs i j (Nat.zero_le _) hij (by omega)
  rw [getElem!_pos d' j hj', getElem!_pos d' i hi'] at this
  simp only [ltR, decide_eq_false_iff_not] at this
  simp only [Array.getElem_toList]
  omega

noncomputable def tsnT : TypeInfo := (Tryd.prog.info? 58).get (by kernel_rfl)
noncomputable def tsnE : TypeInfo := (Tryd.prog.info? 48).get (by kernel_rfl)
theorem tsnK (n : Nat) (h2 : 2 ≤ n) : Lib.swapperK n tsnE 22 = 3 := by
  have a : tsnE.hasPointers = true := by kernel_rfl
  have b : tsnE.bytes = 8 := by kernel_rfl
  have c : (n == 0) = false := by simp; omega
  have d : (n == 1) = false := by simp; omega
  simp [Lib.swapperK, a, b, c, d]

set_option maxHeartbeats 2000000 in
theorem tsn_less (first blk c Bs size : Nat) (W : World) (G : Nat → Ref) (hf : first < 4294967296) (hs : W.cell? ⟨Bs, 0, none⟩ = some (.slice (some ⟨blk, 0, none⟩) size c))
    (hc : ∀ t, t < size → W.cell? ⟨blk, 0 + t, none⟩ = some (rp (G t)) ∧ W.cell? ⟨(G t).1, 8, none⟩ = some (.int .u32 (tsnOf first (G t).2 : Nat)) ∧ (G t).2 ≤ 1000000) (i j : Nat) (hi : i < size) (hj : j < size) :
    Calls Tryd.prog 43 #[.int .i64 i, .int .i64 j, .pointer (some ⟨Bs, 0, none⟩)] W fun e w' => e = .returned (.bool (decide ((G i).2 < (G j).2))) ∧ ∃ q, w' = W.drewN q := by
  obtain ⟨ci, ti, bi⟩ := hc i hi
  obtain ⟨cj, tj, bj⟩ := hc j hj
  unfold rp at ci cj
  rw [Nat.zero_add] at ci cj
  generalize (G i).1 = gi at ci ti
  generalize (G j).1 = gj at cj tj
  generalize (G i).2 = x at ti bi ⊢
  generalize (G j).2 = y at tj bj ⊢
  have C := fun w => (sna32LT_near first x y w hf bi bj).mono fun e w' (h : _ ∧ w = w') => (⟨h.1, h.2.symm⟩ : _ ∧ w' = w)
  have HC := Lib.hid C
  clear C hc
  go_enter Tryd.func43, Tryd.ntmps43
  go_wp2
  go_quiet ((go_at_call 44; exact Calls.quiet_of_same (HC.out _)))
  go_wp2
  go_ret
  exact ⟨rfl, nq, rfl⟩

set_option maxHeartbeats 2000000 in
theorem tsn_sort (first blk c m : Nat) (L : List Ref) (hL : L.length = m + 1) (w : World) (hf : first < 4294967296) (h2 : 1 ≤ m) (hm : m ≤ 1000000) (hH : Holds (encR (m := m) L) w blk 0 (ids m)) (hblk : blk < w.heap.size)
    (hc : ∀ r ∈ L, w.cell? ⟨r.1, 8, none⟩ = some (.int .u32 (tsnOf first r.2 : Nat)) ∧ r.2 ≤ 1000000 ∧ r.1 ≠ blk) :
    Calls Tryd.prog 28 #[.slice (some ⟨blk, 0, none⟩) (ids m).size c] w fun e w' =>
      e = .returned (.tuple #[]) ∧ ∃ d' n os, PermIn 0 (ids m).size (ids m) d' ∧ SortedIn (ltR L) 0 (ids m).size d' ∧ w' = grow (putRow (encR L) (Sort.ahead w n) blk 0 d') os := by
  have hH1 : Holds (encR (m := m) L) (w.alloc (.cells #[.slice (some ⟨blk, 0, none⟩) (ids m).size c] 58)) blk 0 (ids m) := by rw [alloc_eq_grow]; exact holds_grow _ w _ blk 0 (ids m) hblk hH
  have hb1 : blk < (w.alloc (.cells #[.slice (some ⟨blk, 0, none⟩) (ids m).size c] 58)).heap.size := by rw [alloc_eq_grow, size_grow]; omega
  have hless : LessReads Tryd.prog 43 #[.pointer (some ⟨w.heap.size, 0, none⟩)] (encR (m := m) L) (ltR L) blk 0 (ids m).size (w.alloc (.cells #[.slice (some ⟨blk, 0, none⟩) (ids m).size c] 58)) := by
    intro q os dk hs i j hi hj
    have e : sortWorld (encR L) (w.alloc (.cells #[.slice (some ⟨blk, 0, none⟩) (ids m).size c] 58)) blk 0 q dk os = putRow (encR L) (grow (Sort.ahead (w.alloc (.cells #[.slice (some ⟨blk, 0, none⟩) (ids m).size c] 58)) q) os) blk 0 dk := by
      unfold sortWorld; rw [putRow_grow _ (Sort.ahead (w.alloc (.cells #[.slice (some ⟨blk, 0, none⟩) (ids m).size c] 58)) q) _ blk 0 _ hb1]
    have hHg : Holds (encR L) (grow (Sort.ahead (w.alloc (.cells #[.slice (some ⟨blk, 0, none⟩) (ids m).size c] 58)) q) os) blk 0 (ids m) := holds_grow _ _ _ blk 0 (ids m) hb1 (holds_ahead _ _ _ _ _ _ hH1)
    refine tsn_less first blk c w.heap.size (ids m).size _ (fun t => at' L dk[t]!) hf ?_ (fun t ht => ⟨?_, ?_⟩) i j hi hj
    · rw [e, cell?_putRow_other _ _ blk 0 dk _ (Or.inl (by show w.heap.size ≠ blk; omega)), cell?_grow _ _ _ (by show w.heap.size < (w.alloc (.cells #[.slice (some ⟨blk, 0, none⟩) (ids m).size c] 58)).heap.size; rw [alloc_eq_grow, size_grow]; simp)]
      show (w.alloc (.cells #[.slice (some ⟨blk, 0, none⟩) (ids m).size c] 58)).cell? _ = _
      simp
    · rw [e]; exact cell?_putRow _ _ blk 0 (ids m) dk hHg hs t (by omega)
    · have hmem : at' L dk[t]! ∈ L := by
        unfold at'
        have : (dk[t]!).1 < L.length := by have := (dk[t]!).2; omega
        rw [List.getD_eq_getElem?_getD, List.getElem?_eq_getElem this]
        exact List.getElem_mem this
      obtain ⟨c1, c2, c3⟩ := hc _ hmem
      refine ⟨?_, c2⟩
      have hb := World.block_lt_of_cell? w _ c1
      rw [e, cell?_putRow_other _ _ blk 0 dk _ (Or.inl c3), cell?_grow _ _ _ (by show _ < (w.alloc _).heap.size; rw [World.size_alloc]; exact Nat.lt_succ_of_lt hb)]
      show (w.alloc (.cells #[.slice (some ⟨blk, 0, none⟩) (ids m).size c] 58)).cell? _ = _
      rw [World.cell?_alloc_lt w _ _ hb]
      exact c1
  have hS := Any.sort_Slice_sorted Tryd.sl6 58 48 tsnT tsnE (by kernel_rfl) (by kernel_rfl) (by kernel_rfl) (by kernel_rfl) 22 (fun _ => by kernel_rfl) (by kernel_rfl) (fun _ => by kernel_rfl) (encR L) (fun _ => rfl) (ltR L) (swoR L) 43 _
    (enters_of Tryd.func43 (by kernel_rfl) rfl) blk 0 c (ids m) (by rw [ids_size]; omega) (by rw [ids_size]; omega) 62 (by rw [tsnK _ (by rw [ids_size]; omega)]; kernel_rfl) true
    (fun args W => run_callFunc_extern Tryd.func62 (by kernel_rfl) (by kernel_rfl) (by kernel_rfl) (e := Extern.ReflectliteSwapper.swap true) (by kernel_rfl) args W) _ hless hH1 hb1
  change Calls Tryd.prog 42 _ _ _ at hS
  clear hless hH hH1 hc
  go_enter Tryd.func28, Tryd.ntmps28
  go_wp2_with (go_at_call 42; refine hS.mono ?_; rintro e w' ⟨rfl, d', n, os, hP, hSo, rfl⟩)
  go_end0
  exact ⟨rfl, d', n, _, hP, hSo, by rw [alloc_eq_grow, ahead_grow, putRow_grow _ (Sort.ahead w n) _ blk 0 _ hblk, grow_grow]⟩

noncomputable def ssnT : TypeInfo := (Tryd.prog.info? 55).get (by kernel_rfl)
noncomputable def ssnE : TypeInfo := (Tryd.prog.info? 69).get (by kernel_rfl)
theorem ssnK (n : Nat) (h2 : 2 ≤ n) : Lib.swapperK n ssnE 22 = 3 := by
  have a : ssnE.hasPointers = true := by kernel_rfl
  have b : ssnE.bytes = 8 := by kernel_rfl
  have c : (n == 0) = false := by simp; omega
  have d : (n == 1) = false := by simp; omega
  simp [Lib.swapperK, a, b, c, d]

set_option maxHeartbeats 2000000 in
theorem ssn_less (first blk c Bs size : Nat) (W : World) (G : Nat → Ref) (hf : first < 4294967296) (hs : W.cell? ⟨Bs, 0, none⟩ = some (.slice (some ⟨blk, 0, none⟩) size c))
    (hc : ∀ t, t < size → W.cell? ⟨blk, 0 + t, none⟩ = some (rp (G t)) ∧ W.cell? ⟨(G t).1, 0, none⟩ = some (.int .u16 ((G t).2 : Nat)) ∧ (G t).2 ≤ 30000) (i j : Nat) (hi : i < size) (hj : j < size) :
    Calls Tryd.prog 45 #[.int .i64 i, .int .i64 j, .pointer (some ⟨Bs, 0, none⟩)] W fun e w' => e = .returned (.bool (decide ((G i).2 < (G j).2))) ∧ ∃ q, w' = W.drewN q := by
  obtain ⟨ci, ti, bi⟩ := hc i hi
  obtain ⟨cj, tj, bj⟩ := hc j hj
  unfold rp at ci cj
  rw [Nat.zero_add] at ci cj
  generalize (G i).1 = gi at ci ti
  generalize (G j).1 = gj at cj tj
  generalize (G i).2 = x at ti bi ⊢
  generalize (G j).2 = y at tj bj ⊢
  have C := fun w => (sna16LT_near x y w bi bj).mono fun e w' (h : _ ∧ w = w') => (⟨h.1, h.2.symm⟩ : _ ∧ w' = w)
  have HC := Lib.hid C
  clear C hc
  go_enter Tryd.func45, Tryd.ntmps45
  go_wp2
  go_quiet ((go_at_call 30; exact Calls.quiet_of_same (HC.out _)))
  go_wp2
  go_ret
  exact ⟨rfl, nq, rfl⟩

set_option maxHeartbeats 2000000 in
theorem ssn_sort (first blk c m : Nat) (L : List Ref) (hL : L.length = m + 1) (w : World) (hf : first < 4294967296) (h2 : 1 ≤ m) (hm : m ≤ 1000000) (hH : Holds (encR (m := m) L) w blk 0 (ids m)) (hblk : blk < w.heap.size)
    (hc : ∀ r ∈ L, w.cell? ⟨r.1, 0, none⟩ = some (.int .u16 (r.2 : Nat)) ∧ r.2 ≤ 30000 ∧ r.1 ≠ blk) :
    Calls Tryd.prog 35 #[.slice (some ⟨blk, 0, none⟩) (ids m).size c] w fun e w' =>
      e = .returned (.tuple #[]) ∧ ∃ d' n os, PermIn 0 (ids m).size (ids m) d' ∧ SortedIn (ltR L) 0 (ids m).size d' ∧ w' = grow (putRow (encR L) (Sort.ahead w n) blk 0 d') os := by
  have hH1 : Holds (encR (m := m) L) (w.alloc (.cells #[.slice (some ⟨blk, 0, none⟩) (ids m).size c] 55)) blk 0 (ids m) := by rw [alloc_eq_grow]; exact holds_grow _ w _ blk 0 (ids m) hblk hH
  have hb1 : blk < (w.alloc (.cells #[.slice (some ⟨blk, 0, none⟩) (ids m).size c] 55)).heap.size := by rw [alloc_eq_grow, size_grow]; omega
  have hless : LessReads Tryd.prog 45 #[.pointer (some ⟨w.heap.size, 0, none⟩)] (encR (m := m) L) (ltR L) blk 0 (ids m).size (w.alloc (.cells #[.slice (some ⟨blk, 0, none⟩) (ids m).size c] 55)) := by
    intro q os dk hs i j hi hj
    have e : sortWorld (encR L) (w.alloc (.cells #[.slice (some ⟨blk, 0, none⟩) (ids m).size c] 55)) blk 0 q dk os = putRow (encR L) (grow (Sort.ahead (w.alloc (.cells #[.slice (some ⟨blk, 0, none⟩) (ids m).size c] 55)) q) os) blk 0 dk := by
      unfold sortWorld; rw [putRow_grow _ (Sort.ahead (w.alloc (.cells #[.slice (some ⟨blk, 0, none⟩) (ids m).size c] 55)) q) _ blk 0 _ hb1]
    have hHg : Holds (encR L) (grow (Sort.ahead (w.alloc (.cells #[.slice (some ⟨blk, 0, none⟩) (ids m).size c] 55)) q) os) blk 0 (ids m) := holds_grow _ _ _ blk 0 (ids m) hb1 (holds_ahead _ _ _ _ _ _ hH1)
    refine ssn_less first blk c w.heap.size (ids m).size _ (fun t => at' L dk[t]!) hf ?_ (fun t ht => ⟨?_, ?_⟩) i j hi hj
    · rw [e, cell?_putRow_other _ _ blk 0 dk _ (Or.inl (by show w.heap.size ≠ blk; omega)), cell?_grow _ _ _ (by show w.heap.size < (w.alloc (.cells #[.slice (some ⟨blk, 0, none⟩) (ids m).size c] 55)).heap.size; rw [alloc_eq_grow, size_grow]; simp)]
      show (w.alloc (.cells #[.slice (some ⟨blk, 0, none⟩) (ids m).size c] 55)).cell? _ = _
      simp
    · rw [e]; exact cell?_putRow _ _ blk 0 (ids m) dk hHg hs t (by omega)
    · have hmem : at' L dk[t]! ∈ L := by
        unfold at'
        have : (dk[t]!).1 < L.length := by have := (dk[t]!).2; omega
        rw [List.getD_eq_getElem?_getD, List.getElem?_eq_getElem this]
        exact List.getElem_mem this
      obtain ⟨c1, c2, c3⟩ := hc _ hmem
      refine ⟨?_, c2⟩
      have hb := World.block_lt_of_cell? w _ c1
      rw [e, cell?_putRow_other _ _ blk 0 dk _ (Or.inl c3), cell?_grow _ _ _ (by show _ < (w.alloc _).heap.size; rw [World.size_alloc]; exact Nat.lt_succ_of_lt hb)]
      show (w.alloc (.cells #[.slice (some ⟨blk, 0, none⟩) (ids m).size c] 55)).cell? _ = _
      rw [World.cell?_alloc_lt w _ _ hb]
      exact c1
  have hS := Any.sort_Slice_sorted Tryd.sl6 55 69 ssnT ssnE (by kernel_rfl) (by kernel_rfl) (by kernel_rfl) (by kernel_rfl) 22 (fun _ => by kernel_rfl) (by kernel_rfl) (fun _ => by kernel_rfl) (encR L) (fun _ => rfl) (ltR L) (swoR L) 45 _
    (enters_of Tryd.func45 (by kernel_rfl) rfl) blk 0 c (ids m) (by rw [ids_size]; omega) (by rw [ids_size]; omega) 62 (by rw [ssnK _ (by rw [ids_size]; omega)]; kernel_rfl) true
    (fun args W => run_callFunc_extern Tryd.func62 (by kernel_rfl) (by kernel_rfl) (by kernel_rfl) (e := Extern.ReflectliteSwapper.swap true) (by kernel_rfl) args W) _ hless hH1 hb1
  change Calls Tryd.prog 42 _ _ _ at hS
  clear hless hH hH1 hc
  go_enter Tryd.func35, Tryd.ntmps35
  go_wp2_with (go_at_call 42; refine hS.mono ?_; rintro e w' ⟨rfl, d', n, os, hP, hSo, rfl⟩)
  go_end0
  exact ⟨rfl, d', n, _, hP, hSo, by rw [alloc_eq_grow, ahead_grow, putRow_grow _ (Sort.ahead w n) _ blk 0 _ hblk, grow_grow]⟩
end Go.Proofs.YtnlkmcbhhljajaaDoor
