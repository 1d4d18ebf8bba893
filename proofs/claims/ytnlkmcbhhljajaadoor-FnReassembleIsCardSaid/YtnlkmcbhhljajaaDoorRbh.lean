/- The walk of FnReassembleIs inside its bounds. Conditions: the error variable holds an error; the first number is of its kind. -/
import Derived.Test.YtnlkmcbhhljajaaDoorRbg
namespace Go.Proofs.YtnlkmcbhhljajaaDoor
open Go.RowKit Go.Lib

theorem MsgsAt.below {w w' : World} {A : Option Addr} {c : Nat} {vs : List Value} {ms : List (List UInt8)} (h : MsgsAt w A c vs ms) (hb : Below w.heap.size w w') : MsgsAt w' A c vs ms :=
  ⟨h.1, h.2.1.below hb, fun i v m h1 h2 => (h.2.2 i v m h1 h2).below hb⟩
theorem MsgsAt.below_of' {w w' : World} {A : Option Addr} {c : Nat} {vs : List Value} {ms : List (List UInt8)} (h : MsgsAt w A c vs ms) (hb : Below w.heap.size w w') : MsgsAt w' A c vs ms := h.below hb
theorem allp_u {size : Nat} {ms : List (List UInt8)} {p : Pc} (h : p ∈ allp size 0 0 ms) : p.u.length ≤ size := by
  obtain ⟨m, _, hc⟩ := allp_of h
  obtain ⟨j, _, e⟩ := cutm_mem hc
  rw [e]
  show ((m.drop (j * size)).take size).length ≤ size
  rw [List.length_take]
  omega
/-- The sizes while they are listed. -/
structure Szs (w0 w : World) (v : Value) (n : Nat) : Prop where
  own : w.ownsRow w0.heap.size 3 1 v n (List.replicate n (.int .i64 4096))
  below : Below w0.heap.size w0 w

set_option maxRecDepth 20000 in
set_option maxHeartbeats 3200000 in
theorem fnReassembleIs_in (first st size : Nat) (A : Option Addr) (n c : Nat) (vs : List Value) (ms : List (List UInt8)) (A2 : Option Addr) (k c2 : Nat) (zs : List Int) (w : World) (hf : first < 4294967296) (h : MsgsAt w A c vs ms) (hn : n = vs.length)
    (hz : Rd w 1 k (.slice A2 k c2) (i64s zs)) (hk : k = zs.length) (he : ErrAt w) (h1 : st ≤ 65535) (h2 : 1 ≤ n) (h3 : n ≤ 20) (h4 : 1 ≤ size) (h5 : size ≤ 200) (h6 : k ≤ 5000) :
    Calls Tryd.prog 3 #[.int .u32 (first : Int), .int .i64 (st : Int), .slice A n c, .int .i64 (size : Int), .slice A2 k c2] w (Yes w) := by
  have hfit := fits8_any A c vs ms w h
  rw [← hn] at hfit
  have HF := Lib.hid hfit
  have HM := Lib.hid h
  have Hn := Lib.hid hn
  have HZ := Lib.hid hz
  have Hk := Lib.hid hk
  have HE := Lib.hid he
  obtain ⟨hl, hr, _⟩ := id h
  rw [← hn] at hl hr
  have HL := Lib.hid hl
  obtain ⟨A', c', hv, hnc, hcm, _, _, hc⟩ := hr
  injection hv with e1 e2 e3
  subst e1 e3
  obtain ⟨gm, om, eA, hgm⟩ := hc (by omega)
  subst eA
  have HGM := Lib.hid hgm
  obtain ⟨A', c', hv, hkc, hkm, _, _, hcz⟩ := id hz
  injection hv with e1 e4 e3
  subst e1 e3
  have HCZ := Lib.hid hcz
  clear h hn hfit hz hk he hl hc hgm e2 e4 hcz
  unfold maxLen at hcm hkm
  go_enter Tryd.func3, Tryd.ntmps3
  go_wp2_with fail
  refine HF.out.mono ?_
  rintro z w1 ⟨b, rfl, hw1⟩
  subst hw1
  clear HF
  cases b with
  | false =>
    go_wp2
    go_ret
    exact ⟨rfl, Below.refl _ _⟩
  | true =>
    go_wp2_with fail
    have hS0 : Szs w (w.alloc (.cells #[.int .i64 4096] 3)) (.slice (some ⟨w.heap.size, 0, none⟩) 1 1) 1 := ⟨(Row.new w 3 #[.int .i64 4096]).own (Nat.le_refl _) rfl (by unfold maxLen; omega), (Below.refl _ _).alloc (Nat.le_refl _) _⟩
    have HS0 := Lib.hid hS0
    clear hS0
    go_loopw [11, 61] (fun sz i wr => ∃ q : Nat, q ≤ n ∧ i = .int .i64 (q : Int) ∧ Hid (Szs w wr sz (q + 1)) ∧ Hid (∀ (j : Nat) (m : List UInt8), j < q → ms[j]? = some m → 1 ≤ m.length ∧ m.length ≤ 200)) (fun _ i _ => n - (intOf i).toNat)
    case atStart => exact ⟨0, Nat.zero_le _, rfl, HS0, Lib.hid (fun j m h => by omega)⟩
    case round =>
      clear HS0
      obtain ⟨q, hq, rfl, HS, HI⟩ := hrel
      obtain ⟨As, cs, es⟩ := own_slice HS.out.own
      subst es
      by_cases hlt : q < n
      · have hlv : q < vs.length := by have := Hn.out; omega
        have hlm : q < ms.length := by have := HL.out; omega
        have hx : vs[q]? = some vs[q] := List.getElem?_eq_getElem hlv
        have hy : ms[q]? = some ms[q] := List.getElem?_eq_getElem hlm
        generalize vs[q] = x at hx
        generalize ms[q] = m at hy
        have hcx := HGM.out q x hx
        obtain ⟨Am, cm, ex, _⟩ := HM.out.2.2 q x m hx hy
        subst ex
        have hcx' : wr.cell? ⟨gm, om + q, none⟩ = some (.slice Am m.length cm) := (HS.out.below.cell (World.block_lt_of_cell? w _ hcx)).trans hcx
        obtain ⟨L, hL⟩ : ∃ L, L = m.length := ⟨_, rfl⟩
        rw [← hL] at hcx'
        have HY := Lib.hid hy
        have HLL := Lib.hid hL
        clear hx hy hcx hL
        by_cases b1 : (L : Int) < 1
        · go_wp2
          go_ret
          exact ⟨rfl, HS.out.below⟩
        · by_cases b2 : 200 < (L : Int)
          · go_wp2
            go_ret
            exact ⟨rfl, HS.out.below⟩
          · go_wp2_with (at_builtin; refine wpList_append_rd _ rfl _ _ rfl i8T w.heap.size (.slice As (q + 1) cs) (q + 1) _ rfl (own_below HS.out.own ((Below.refl wr.heap.size wr).alloc (Nat.le_refl _) _)) _ 1 [_] rfl (Rd.lit wr 3 [.int .i64 4096] 1 rfl (by omega)) ?c1 ?c2 ?c3 ?c4 ?_)
            case c1 => simp [Value.oneCell']
            case c2 => unfold maxLen; omega
            case c3 => omega
            case c4 => have := HS.out.below.size; omega
            intro v5 w5 hown5 hg5 hx5
            clear hx5
            have hb5 := (HS.out.below.alloc HS.out.below.size (.cells #[.int .i64 4096] 3)).grown hg5 (by rw [World.size_alloc]; have := HS.out.below.size; omega) (fun g e => (HS.out.own.lt g e).1)
            rw [← List.replicate_succ'] at hown5
            have HS5 : Hid (Szs w w5 v5 (q + 1 + 1)) := Lib.hid ⟨hown5, hb5⟩
            have HI5 : Hid (∀ (j : Nat) (m : List UInt8), j < q + 1 → ms[j]? = some m → 1 ≤ m.length ∧ m.length ≤ 200) := Lib.hid (fun j m' hj hm' => by
              rcases Nat.lt_or_ge j q with h | h
              · exact HI.out j m' h hm'
              · obtain rfl : j = q := by omega
                rw [HY.out] at hm'
                injection hm' with hm'
                subst hm'
                have := HLL.out
                omega)
            clear hown5 hg5 hb5 HS HI hcx'
            go_wp2
            exact ⟨⟨q + 1, by omega, by go_num, HS5, HI5⟩, by simp [intOf]; omega⟩
      · obtain rfl : n = q := by omega
        have hSm : Small size ms := ⟨h4, by have := HL.out; have := Hn.out; omega, fun m hm e => by
          obtain ⟨j, hj⟩ := List.mem_iff_getElem?.1 hm
          have := (HI.out j m (by have := (List.getElem?_eq_some_iff.1 hj).1; have := HL.out; have := Hn.out; omega) hj).1
          rw [e] at this
          simp at this, fun m hm => by
          obtain ⟨j, hj⟩ := List.mem_iff_getElem?.1 hm
          exact (HI.out j m (by have := (List.getElem?_eq_some_iff.1 hj).1; have := HL.out; have := Hn.out; omega) hj).2⟩
        have HSM := Lib.hid hSm
        clear hSm HI
        go_wp2_with fail
        go_loopw [79] (fun i w1 => ∃ q : Nat, q ≤ k ∧ i = .int .i64 (q : Int) ∧ wr = w1 ∧ Hid (∀ (j : Nat) (z : Int), j < q → zs[j]? = some z → 0 ≤ z)) (fun i _ => k - (intOf i).toNat)
        case atStart => exact ⟨0, Nat.zero_le _, rfl, rfl, Lib.hid (fun j m h => by omega)⟩
        case round =>
          obtain ⟨q, hq, rfl, hw1, HI⟩ := hrel
          subst hw1
          by_cases hlt : q < k
          · obtain ⟨gz, oz, eA, hgz⟩ := HCZ.out (by omega)
            subst eA
            have hlz : q < zs.length := by have := Hk.out; omega
            have hx : zs[q]? = some zs[q] := List.getElem?_eq_getElem hlz
            generalize zs[q] = z at hx
            have hcz := hgz q (.int .i64 z) (by simp [i64s, hx])
            have hcz' : wr.cell? ⟨gz, oz + q, none⟩ = some (.int .i64 z) := (HS.out.below.cell (World.block_lt_of_cell? w _ hcz)).trans hcz
            have HX := Lib.hid hx
            clear hcz hx hgz
            by_cases b1 : z < 0
            · go_wp2
              go_ret
              exact ⟨rfl, HS.out.below⟩
            · have HI5 : Hid (∀ (j : Nat) (z : Int), j < q + 1 → zs[j]? = some z → 0 ≤ z) := Lib.hid (fun j z' hj hz' => by
                rcases Nat.lt_or_ge j q with h | h
                · exact HI.out j z' h hz'
                · obtain rfl : j = q := by omega
                  rw [HX.out] at hz'
                  injection hz' with hz'
                  omega)
              clear HI
              go_wp2
              exact ⟨⟨q + 1, by omega, by go_num, by trivial, HI5⟩, by simp [intOf]; omega⟩
          · obtain rfl : k = q := by omega
            have hz0 : ∀ z ∈ zs, 0 ≤ z := fun z hz => by
              obtain ⟨j, hj⟩ := List.mem_iff_getElem?.1 hz
              exact HI.out j z (by have := (List.getElem?_eq_some_iff.1 hj).1; have := Hk.out; omega) hj
            have hMw := HM.out.below_of' HS.out.below
            have HZ0 := Lib.hid hz0
            have HMW := Lib.hid hMw
            clear hz0 hMw HI HCZ
            go_wp2_with fail
            refine (pieces_any first st size ms _ n c vs wr HSM.out hf h5 HMW.out Hn.out).mono ?_
            rintro z w2 ⟨Ap, np, cp, ds, rfl, p1, p2, p3, p4, p5⟩
            have hnp : np ≤ 4000 := by
              rw [p1, ← List.length_map (f := fun d : Value × Pc => d.2), p3]
              exact HSM.out.len
            have hone : ∀ d ∈ ds, ∀ u ∈ dcs first st d, u.oneCell' = true := fun d hd u hu => by
              obtain ⟨A', c', e, _⟩ := p4 d hd
              unfold dcs at hu
              rw [e] at hu
              simp only [List.mem_cons, List.not_mem_nil, or_false] at hu
              rcases hu with rfl | rfl | rfl | rfl | rfl | rfl | rfl | rfl | rfl <;> rfl
            have hb2 := below_step HS.out.below HS.out.below.size p5
            have hS2 : Szs w w2 (.slice As (n + 1) cs) (n + 1) := ⟨own_below HS.out.own p5, hb2⟩
            have P1 := Lib.hid p1
            have P2 := Lib.hid p2
            have P3 := Lib.hid p3
            have P4 := Lib.hid (fun d hd => (p4 d hd).below_of p5 : ∀ d ∈ ds, Sl w2 d.1 d.2.u)
            have HONE := Lib.hid hone
            have HS2 := Lib.hid hS2
            clear p1 p2 p3 p4 p5 hone hb2 hS2 HS HMW
            go_wp2_with fail
            refine (mixed_any (dcs first st) ds Ap np cp A2 k c2 zs w2 (fun d => ⟨_, _, _, _, _, _, _, _, _, rfl⟩) HONE.out P2.out P1.out hnp (HZ.out.below_of HS2.out.below) Hk.out h6 HZ0.out).mono ?_
            rintro z w3 ⟨Aq, nq, cq, ds', rfl, q1, q2, q3, q4⟩
            have hb3 := below_step HS2.out.below HS2.out.below.size q4
            have hS3 : Szs w w3 (.slice As (n + 1) cs) (n + 1) := ⟨own_below HS2.out.own q4, hb3⟩
            have hsl : ∀ d ∈ ds', Sl w3 d.1 d.2.u ∧ d.2.u.length ≤ 4096 := fun d hd => by
              have h7 := q3.mem_iff.1 hd
              refine ⟨(P4.out d h7).below_of q4, ?_⟩
              have h8 : d.2 ∈ allp size 0 0 ms := by rw [← P3.out]; exact List.mem_map_of_mem h7
              have := allp_u h8
              omega
            have hpm : (ds'.map (·.2)).Perm (allp size 0 0 ms) := by rw [← P3.out]; exact q3.map _
            have hnm : n = ms.length := by rw [Hn.out]; exact HM.out.1
            have hne : ms ≠ [] := by intro e; rw [e] at hnm; simp at hnm; omega
            have Q1 := Lib.hid q1
            have Q2 := Lib.hid q2
            have HSL := Lib.hid hsl
            have HPM := Lib.hid hpm
            have HNM := Lib.hid hnm
            have HNE := Lib.hid hne
            have HS3 := Lib.hid hS3
            clear q1 q2 q3 q4 hb3 hS3 hsl hpm hnm hne HS2 P1 P2 P3 P4 HONE HZ0
            go_wp2_with fail
            refine (implrea_any first st size ms ds' Aq nq cq As cs w3 HSM.out hf h1 Q2.out Q1.out HSL.out HPM.out HNE.out (HE.out.below HE.out.lt HS3.out.below) n HNM.out (Rd.of_own HS3.out.own)).mono ?_
            rintro z w4 ⟨A5, c5, A6, c6, vs2, rfl, r1, r2, r3, r4, r5⟩
            have hnm := HNM.out
            rw [← hnm] at r1 r2 r4 ⊢
            have hb4 := below_step HS3.out.below HS3.out.below.size r5
            have hmn : (ms ++ [[]])[n]? = some [] := by rw [List.getElem?_append_right (by omega), ← hnm, Nat.sub_self]; rfl
            obtain ⟨At, ct, et, _, _, _, _, htx0⟩ := id r1
            injection et with e1 e2 e3
            subst e1
            obtain ⟨gt, ot, e4, htx⟩ := htx0 (by omega)
            subst e4
            clear e2 e3 htx0
            obtain ⟨Au, cu, eu, _, _, _, _, hpx0⟩ := id r4
            injection eu with e1 e2 e3
            subst e1
            obtain ⟨gu, ou, e4, hpx⟩ := hpx0 (by omega)
            subst e4
            clear e2 e3 hpx0
            have hvn : vs2[n]? = some (vs2[n]'(by omega)) := List.getElem?_eq_getElem _
            generalize (vs2[n]'(by omega)) = vn at hvn
            obtain ⟨An, cn, en, _⟩ := r3 n vn [] hvn hmn
            have hcn := htx n vn hvn
            subst en
            have HTX := Lib.hid htx
            have HPX := Lib.hid hpx
            have HVL := Lib.hid r2
            have HR3 := Lib.hid r3
            have HB4 := Lib.hid hb4
            have HMW := Lib.hid (HM.out.below hb4)
            clear r1 r2 r3 r4 r5 hnm hb4 hmn hvn htx hpx HS3 HSL HPM Q1 Q2 HSM
            go_wp2_with fail
            clear hcn
            go_loopw [126] (fun i w1 => ∃ q : Nat, q ≤ n ∧ i = .int .i64 (q : Int) ∧ w4 = w1) (fun i _ => n - (intOf i).toNat)
            case atStart => exact ⟨0, Nat.zero_le _, rfl, rfl⟩
            case round =>
              obtain ⟨q, hq, rfl, hw1⟩ := hrel
              subst hw1
              by_cases hlt : q < n
              · have hlv : q < vs.length := by have := Hn.out; omega
                have hlm : q < ms.length := by have := HNM.out; omega
                have hl2 : q < vs2.length := by have := HVL.out; omega
                have hx : vs[q]? = some vs[q] := List.getElem?_eq_getElem hlv
                have hy : ms[q]? = some ms[q] := List.getElem?_eq_getElem hlm
                have hv : vs2[q]? = some vs2[q] := List.getElem?_eq_getElem hl2
                generalize vs[q] = x at hx
                generalize ms[q] = m at hy
                generalize vs2[q] = v at hv
                have hsx := HMW.out.2.2 q x m hx hy
                have hsv := HR3.out q v m hv (by rw [List.getElem?_append_left hlm]; exact hy)
                have hcx := HGM.out q x hx
                have hcx' : w4.cell? ⟨gm, om + q, none⟩ = some x := (HB4.out.cell (World.block_lt_of_cell? w _ hcx)).trans hcx
                have hcv := HTX.out q v hv
                have hcy := HPX.out q (.int .i64 (50 + (q : Int))) (by rw [List.getElem?_map, List.getElem?_range (by omega)]; simp [numAt, hlt])
                have HSX := Lib.hid hsx
                have HSV := Lib.hid hsv
                obtain ⟨Ax, cx, ex, _⟩ := hsx
                obtain ⟨Av, cv, ev, _⟩ := hsv
                subst ex ev
                clear hx hy hv hcx
                go_wp2_with fail
                refine (same_any _ _ m m w4 HSV.out HSX.out).mono ?_
                rintro z w5 ⟨rfl, hw5⟩
                subst hw5
                rw [decide_eq_true rfl]
                go_wp2
                exact ⟨⟨q + 1, by omega, by go_num, by trivial⟩, by simp [intOf]; omega⟩
              · obtain rfl : n = q := by omega
                go_wp2
                go_ret
                exact ⟨rfl, HB4.out⟩

/-- The law returns true for every input, and changes nothing that was there. -/
theorem fnReassembleIs_walk (first stream size : Int) (A : Option Addr) (c : Nat) (vs : List Value) (ms : List (List UInt8)) (A2 : Option Addr) (c2 : Nat) (zs : List Int) (w : World) (hf0 : 0 ≤ first) (hf : first < 4294967296) (h : MsgsAt w A c vs ms)
    (hz : Rd w 1 zs.length (.slice A2 zs.length c2) (i64s zs)) (he : ErrAt w) :
    Calls Tryd.prog 3 #[.int .u32 first, .int .i64 stream, .slice A vs.length c, .int .i64 size, .slice A2 zs.length c2] w (Yes w) := by
  obtain ⟨f, rfl⟩ := Int.eq_ofNat_of_zero_le hf0
  by_cases hout : 0 ≤ stream ∧ stream ≤ 65535 ∧ 1 ≤ vs.length ∧ vs.length ≤ 20 ∧ 1 ≤ size ∧ size ≤ 200 ∧ zs.length ≤ 5000
  · obtain ⟨h1, h2, h3, h4, h5, h6, h7⟩ := hout
    obtain ⟨st, rfl⟩ := Int.eq_ofNat_of_zero_le h1
    obtain ⟨sz, rfl⟩ := Int.eq_ofNat_of_zero_le (a := size) (by omega)
    exact fnReassembleIs_in f st sz A vs.length c vs ms A2 zs.length c2 zs w (by omega) h rfl hz rfl he (by omega) h3 h4 (by omega) (by omega) h7
  · exact fnReassembleIs_out f stream size A vs.length c vs ms A2 zs.length c2 w h rfl hout
end Go.Proofs.YtnlkmcbhhljajaaDoor
