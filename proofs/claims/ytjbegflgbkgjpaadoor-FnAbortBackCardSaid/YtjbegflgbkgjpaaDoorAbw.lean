/- Contracts of AbortText and AbortOf; the walk of FnAbortBack. No condition (the walk). -/
import Derived.Test.YtjbegflgbkgjpaaDoorAbo
import Derived.Test.YtjbegflgbkgjpaaDoorPmf
namespace Go.Proofs.YtjbegflgbkgjpaaDoor
open Go.RowKit Go.Lib

theorem pflat_le (ps : List Pm) (m : Nat) (h : ∀ p ∈ ps, p.l.length ≤ m) : (pflat (ps.map Pm.c)).length ≤ ps.length * (4 + m) := by
  induction ps with
  | nil => simp [pflat]
  | cons a r ih =>
    have h1 := h a (by simp)
    have h2 := ih (fun p hp => h p (by simp [hp]))
    have e : pflat ((a :: r).map Pm.c) = tlv a.ty.toNat a.l ++ pflat (r.map Pm.c) := rfl
    rw [e, List.length_append, tlv_length, List.length_cons, Nat.add_mul]
    omega

set_option maxRecDepth 20000 in
theorem abtext_any (A : Option Addr) (n c : Nat) (ps : List Pm) (w : World) (h : Rd w 2 n (.slice A n c) (pms .i64 ps)) (hn : n = ps.length) (ha : PAll ps w) (hr : ∀ p ∈ ps, (p.ty = 12 ∨ p.ty = 13) ∧ p.l.length ≤ 100) (hl : n ≤ 10) :
    Calls Tryd.prog 5 #[.slice A n c] w (RetSlB w (chunk 6 0 (pflat (ps.map Pm.c)))) := by
  have hle := pflat_le ps 100 (fun p hp => (hr p hp).2)
  have Hle : Hid ((pflat (ps.map Pm.c)).length ≤ 1040) := Lib.hid (by omega)
  have H := Lib.hid h
  have Hn := Lib.hid hn
  have HA := Lib.hid ha
  have HR := Lib.hid hr
  clear h hn ha hr hle
  go_enter Tryd.func5, Tryd.ntmps5
  go_wp2_with fail
  refine (paramsOf_any _ ps _ (by rw [← Hn.out]; exact H.out) HA.out (by have := Hn.out; omega) (fun p hp => by obtain ⟨h1, h2⟩ := HR.out p hp; exact ⟨by omega, by omega, by omega⟩)).mono ?_
  rintro e w1 ⟨A1, c1, qs, rfl, hcon, hlen, hrd, hall, hb1⟩
  rw [← Hn.out] at hrd hlen ⊢
  have hq : ∀ p ∈ qs, (p.ty = 12 ∨ p.ty = 13) ∧ p.l.length ≤ 65531 := by
    intro p hp
    have h1 : p.c ∈ ps.map Pm.c := by rw [← hcon]; exact List.mem_map_of_mem hp
    obtain ⟨x, hx, e⟩ := List.mem_map.1 h1
    have e1 : x.ty = p.ty := congrArg Prod.fst e
    have e2 : x.l = p.l := congrArg Prod.snd e
    obtain ⟨h2, h3⟩ := HR.out x hx
    rw [e1] at h2
    rw [e2] at h3
    exact ⟨h2, by omega⟩
  have Hrd := Lib.hid hrd
  have Hcon := Lib.hid hcon
  have Hlen := Lib.hid hlen
  have Hall := Lib.hid hall
  have Hb1 := Lib.hid hb1
  have Hq := Lib.hid hq
  clear hrd hcon hlen hall hb1 hq
  go_wp2_with fail
  refine (zzabtext_any A1 n c1 qs _ Hrd.out Hlen.out.symm Hall.out Hq.out (by omega) (by rw [Hcon.out]; have := Hle.out; omega)).mono ?_
  rintro e w2 ⟨A2, n2, c2, rfl, hs2, hb2⟩
  rw [Hcon.out] at hs2
  have Hs2 := Lib.hid hs2
  have Hb2 := Lib.hid (below_step Hb1.out Hb1.out.size hb2)
  clear hs2 hb2
  go_wp2_with fail
  go_region_with ((go_at_call 11; refine (copied_any _ _ _ Hs2.out.drew (by rw [chunk_length]; have := Hle.out; omega)).mono ?_; rintro e w3 ⟨A3, n3, c3, rfl, hs3, hb3⟩))
  have Hs3 := Lib.hid hs3
  have Hb3 := Lib.hid hb3
  clear hs3 hb3
  go_wp2
  go_ret2
  exact ⟨A3, n3, c3, rfl, Hs3.out, Hb2.out.drew.trans (Hb3.out.mono Hb2.out.size)⟩

set_option maxRecDepth 20000 in
theorem abof_any (A : Option Addr) (n c : Nat) (ds : List (Int × List UInt8)) (w : World) (hs : Sl w (.slice A n c) (chunk 6 0 (pflat ds))) (hl : ds.length ≤ 1000) (hlen : (pflat ds).length ≤ 65531) (hp : ∀ d ∈ ds, (d.1 = 12 ∨ d.1 = 13) ∧ d.2.length ≤ 65531) :
    Calls Tryd.prog 6 #[.slice A n c] w (RetPmE w .i64 (.bool true) ds) := by
  have Hs := Lib.hid hs
  have HP := Lib.hid hp
  have Hlen := Lib.hid hlen
  have Hl := Lib.hid hl
  clear hs hp hlen hl
  go_enter Tryd.func6, Tryd.ntmps6
  go_wp2_with fail
  refine (copied_any _ _ _ Hs.out (by rw [chunk_length]; have := Hlen.out; omega)).mono ?_
  rintro e w1 ⟨A1, n1, c1, rfl, hs1, hb1⟩
  have Hs1 := Lib.hid hs1
  have Hb1 := Lib.hid hb1
  clear hs1 hb1
  go_wp2_with fail
  refine (zzabof_any A1 n1 c1 ds _ Hs1.out Hl.out Hlen.out HP.out).mono ?_
  rintro e w2 ⟨A2, c2, qs, rfl, hcon, hql, hrd, hall, hb2⟩
  have hq : ∀ p ∈ qs, 0 ≤ p.ty ∧ p.ty ≤ 65535 ∧ p.l.length ≤ 1000000 := by
    intro p hp
    have h1 : p.c ∈ ds := by rw [← hcon]; exact List.mem_map_of_mem hp
    obtain ⟨h2, h3⟩ := HP.out _ h1
    simp only [Pm.c] at h2 h3
    exact ⟨by omega, by omega, by omega⟩
  rw [← hql] at hrd ⊢
  have Hrd := Lib.hid hrd
  have Hcon := Lib.hid hcon
  have Hql := Lib.hid hql
  have Hall := Lib.hid hall
  have Hb2 := Lib.hid (below_step Hb1.out Hb1.out.size hb2)
  have Hq := Lib.hid hq
  clear hrd hcon hall hb2 hq hql
  go_wp2_with fail
  refine (params_any _ qs _ Hrd.out Hall.out (by have := Hl.out; have := Hql.out; omega) Hq.out).mono ?_
  rintro e w3 ⟨A3, c3, rs, rfl, hcon3, hlen3, hrd3, hall3, hb3⟩
  have Hrd3 := Lib.hid hrd3
  have Hcon3 := Lib.hid hcon3
  have Hlen3 := Lib.hid hlen3
  have Hall3 := Lib.hid hall3
  have Hb3 := Lib.hid (below_step Hb2.out Hb2.out.size hb3)
  clear hrd3 hcon3 hlen3 hall3 hb3
  go_wp2
  go_ret2
  exact ⟨A3, c3, rs, by rw [Hql.out]; rfl, by rw [Hcon3.out, Hcon.out], by rw [Hlen3.out, Hql.out], by rw [← Hql.out]; exact Hrd3.out, Hall3.out, Hb3.out⟩

theorem same_eq (v1 v2 : Value) (l : List UInt8) (w : World) (h1 : Sl w v1 l) (h2 : Sl w v2 l) :
    Calls Tryd.prog 7 #[v1, v2] w fun e w' => e = .returned (.bool true) ∧ w' = w := by
  refine (same_any v1 v2 l l w h1 h2).mono ?_
  rintro e w' ⟨rfl, rfl⟩
  exact ⟨by rw [decide_eq_true rfl], rfl⟩
end Go.Proofs.YtjbegflgbkgjpaaDoor
