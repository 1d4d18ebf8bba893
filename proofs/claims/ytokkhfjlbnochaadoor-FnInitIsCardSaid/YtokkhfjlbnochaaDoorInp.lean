/- The two kinds of parameters of INIT: state cookies (7), and that numbers may be moved on (49152): marshal, unmarshal, buildParam, zzParam. Conditions: the length fits 16 bits. -/
import Derived.Test.YtokkhfjlbnochaaDoorPar
import Derived.Test.YtokkhfjlbnochaaDoorPms
namespace Go.Proofs.YtokkhfjlbnochaaDoor
open Go.RowKit Go.Lib

/-- What a parameter's marshal hands back and leaves. -/
def RetKm (w : World) (gc : Nat) (t : TypeId) (ty : Nat) (x1 x2 : Int) (rest : List Value) (l : List UInt8) (e : Ending) (w' : World) : Prop :=
  ∃ A n c, e = .returned (.tuple #[.slice A n c, .nilIface]) ∧ Sl w' (.slice A n c) (tlv ty l) ∧ (∃ A1 n1 c1, Row w' gc t (.int .u16 (ty : Int) :: .int .u8 x1 :: .int .i64 x2 :: .slice A1 n1 c1 :: rest)) ∧ w.grownBy w' (some gc) ∧ ∀ g, g < w.heap.size → Far (.slice A n c) g

set_option maxRecDepth 20000 in
theorem scmarshal (gc : Nat) (t : TypeId) (x0 x1 x2 : Int) (c3 : Value) (A : Option Addr) (n c : Nat) (l : List UInt8) (w : World) (hr : Row w gc t [.int .u16 x0, .int .u8 x1, .int .i64 x2, c3, .slice A n c]) (hs : Sl w (.slice A n c) l) (hf : 0 < l.length → Far (.slice A n c) gc) (hl : l.length ≤ 65531) :
    Calls Tryd.prog 79 #[.pointer (some ⟨gc, 0, none⟩)] w (RetKm w gc t 7 x1 x2 [.slice A n c] l) := by
  have k0 : w.cell? ⟨gc, 0, none⟩ = some (.int .u16 x0) := by rw [hr.cell]; rfl
  have k3 : w.cell? ⟨gc, 3, none⟩ = some c3 := by rw [hr.cell]; rfl
  have k4 : w.cell? ⟨gc, 4, none⟩ = some (.slice A n c) := by rw [hr.cell]; rfl
  have f0 := hr.frozen 0
  have f3 := hr.frozen 3
  have Hr := Lib.hid hr
  have Hs := Lib.hid hs
  have Hf := Lib.hid hf
  clear hr hs hf
  go_enter Tryd.func79, Tryd.ntmps79
  go_wp2_with fail
  have hRW : Row ((w.setCell ⟨gc, 0, none⟩ (.int .u16 7)).setCell ⟨gc, 3, none⟩ (.slice A n c)) gc t [.int .u16 ((7 : Nat) : Int), .int .u8 x1, .int .i64 x2, .slice A n c, .slice A n c] := (Hr.out.set 0 _).set 3 _
  have hGW : w.grownBy ((w.setCell ⟨gc, 0, none⟩ (.int .u16 7)).setCell ⟨gc, 3, none⟩ (.slice A n c)) (some gc) := only_set (only_set (only_refl _ _) 0 _) 3 _
  generalize (w.setCell ⟨gc, 0, none⟩ (.int .u16 7)).setCell ⟨gc, 3, none⟩ (.slice A n c) = W at hRW hGW ⊢
  refine (phmarshalN gc t ((7 : Nat) : Int) _ _ A n c [.slice A n c] l W hRW (Hs.out.only' hGW Hf.out) hl (by omega) (by omega)).mono ?_
  rintro e w2 ⟨A2, n2, cc2, rfl, hS2, hb2, hN2⟩
  rw [Int.toNat_natCast] at hS2
  have HS2 := Lib.hid hS2
  have HR2 := Lib.hid (hRW.below hb2 hRW.lt)
  have HN2 : Hid (∀ g, g < w.heap.size → Far (.slice A2 n2 cc2) g) := Lib.hid (fun g hg => hN2 g (Nat.lt_of_lt_of_le hg hGW.size))
  have HG2 := Lib.hid (only_below hGW hb2)
  clear hS2 hb2 hRW hGW hN2 k0 k3 k4 f0 f3
  go_wp2
  go_ret2
  exact ⟨_, _, _, rfl, HS2.out, ⟨_, _, _, HR2.out⟩, HG2.out, HN2.out⟩

set_option maxRecDepth 20000 in
theorem ftmarshal (gc : Nat) (t : TypeId) (x0 x1 x2 : Int) (c3 : Value) (w : World) (hr : Row w gc t [.int .u16 x0, .int .u8 x1, .int .i64 x2, c3]) :
    Calls Tryd.prog 73 #[.pointer (some ⟨gc, 0, none⟩)] w (RetKm w gc t 49152 x1 x2 [] []) := by
  have k0 : w.cell? ⟨gc, 0, none⟩ = some (.int .u16 x0) := by rw [hr.cell]; rfl
  have k3 : w.cell? ⟨gc, 3, none⟩ = some c3 := by rw [hr.cell]; rfl
  have f0 := hr.frozen 0
  have f3 := hr.frozen 3
  have Hr := Lib.hid hr
  have hgc := hr.lt
  clear hr
  go_enter Tryd.func73, Tryd.ntmps73
  go_wp2_with fail
  have hRW : Row (((w.setCell ⟨gc, 0, none⟩ (.int .u16 49152)).setCell ⟨gc, 3, none⟩ (.slice (some ⟨w.heap.size, 0, none⟩) 0 0)).alloc (.cells #[] 5)) gc t [.int .u16 ((49152 : Nat) : Int), .int .u8 x1, .int .i64 x2, .slice (some ⟨w.heap.size, 0, none⟩) 0 0] := ((Hr.out.set 0 _).set 3 _).alloc _
  have hGW : w.grownBy (((w.setCell ⟨gc, 0, none⟩ (.int .u16 49152)).setCell ⟨gc, 3, none⟩ (.slice (some ⟨w.heap.size, 0, none⟩) 0 0)).alloc (.cells #[] 5)) (some gc) := only_alloc (only_set (only_set (only_refl _ _) 0 _) 3 _) _
  have hS : Sl (((w.setCell ⟨gc, 0, none⟩ (.int .u16 49152)).setCell ⟨gc, 3, none⟩ (.slice (some ⟨w.heap.size, 0, none⟩) 0 0)).alloc (.cells #[] 5)) (.slice (some ⟨w.heap.size, 0, none⟩) 0 0) [] := ⟨_, 0, rfl, Nat.le_refl _, Nat.zero_le _, rfl, (fun h => by cases h), fun h => absurd h (by simp)⟩
  generalize ((w.setCell ⟨gc, 0, none⟩ (.int .u16 49152)).setCell ⟨gc, 3, none⟩ (.slice (some ⟨w.heap.size, 0, none⟩) 0 0)).alloc (.cells #[] 5) = W at hRW hGW hS ⊢
  refine (phmarshalN gc t ((49152 : Nat) : Int) _ _ _ 0 0 [] [] W hRW hS (by simp) (by omega) (by omega)).mono ?_
  rintro e w2 ⟨A2, n2, cc2, rfl, hS2, hb2, hN2⟩
  rw [Int.toNat_natCast] at hS2
  have HS2 := Lib.hid hS2
  have HR2 := Lib.hid (hRW.below hb2 hRW.lt)
  have HN2 : Hid (∀ g, g < w.heap.size → Far (.slice A2 n2 cc2) g) := Lib.hid (fun g hg => hN2 g (Nat.lt_of_lt_of_le hg hGW.size))
  have HG2 := Lib.hid (only_below hGW hb2)
  clear hS2 hb2 hRW hGW hN2 k0 k3 f0 f3 hS
  go_wp2
  go_ret2
  exact ⟨_, _, _, rfl, HS2.out, ⟨_, _, _, HR2.out⟩, HG2.out, HN2.out⟩

/-- The types of a parameter's pointer and struct. -/
def kT (ty : Nat) : TypeId := if ty = 7 then 109 else 89
def kt (ty : Nat) : TypeId := if ty = 7 then 111 else 91
/-- A parameter of INIT. -/
def OkK (ty : Nat) (l : List UInt8) : Prop := (ty = 7 ∨ (ty = 49152 ∧ l = [])) ∧ l.length ≤ 65531
def kRest (ty : Nat) (s : Value) : List Value := if ty = 7 then [s] else []

/-- A parameter is built, in a new block. -/
def RetK (w : World) (ty : Nat) (v0 : Value) (l : List UInt8) (e : Ending) (w' : World) : Prop :=
  ∃ g s x0 x1 x2 A n c, e = .returned (.tuple #[.iface (kT ty) (.pointer (some ⟨g, 0, none⟩)), .nilIface]) ∧ Row w' g (kt ty) (.int .u16 x0 :: .int .u8 x1 :: .int .i64 x2 :: .slice A n c :: kRest ty s) ∧ Sl w' s l ∧ (0 < l.length → ∀ g, Far v0 g → Far s g) ∧ w.heap.size ≤ g ∧ Below w.heap.size w w'

/-- What a cookie's unmarshal leaves. -/
def ReadsSc (w : World) (gc : Nat) (t : TypeId) (v0 : Value) (l : List UInt8) (e : Ending) (w' : World) : Prop :=
  ∃ A n c x0 x1 x2, e = .returned (.tuple #[.iface 109 (.pointer (some ⟨gc, 0, none⟩)), .nilIface]) ∧ Row w' gc t [.int .u16 x0, .int .u8 x1, .int .i64 x2, .slice A n c, .slice A n c] ∧ Sl w' (.slice A n c) l ∧ (∀ g, Far v0 g → Far (.slice A n c) g) ∧ w.grownBy w' (some gc)

set_option maxRecDepth 20000 in
theorem scunmarshal (gc : Nat) (t : TypeId) (c0 c1 c2 c3 c4 : Value) (A : Option Addr) (n c : Nat) (ty : Nat) (l r : List UInt8) (w : World)
    (hr : Row w gc t [c0, c1, c2, c3, c4]) (hs : Sl w (.slice A n c) (tlv ty l ++ r)) (hf : Far (.slice A n c) gc) (hl : l.length ≤ 65531) (ht : ty < 65536) :
    Calls Tryd.prog 43 #[.pointer (some ⟨gc, 0, none⟩), .slice A n c] w (ReadsSc w gc t (.slice A n c) l) := by
  have Hr := Lib.hid hr
  have Hs := Lib.hid hs
  have Hf := Lib.hid hf
  clear hr hs hf
  go_enter Tryd.func43, Tryd.ntmps43
  go_wp2_with fail
  refine (phunmarshal gc t c0 c1 c2 c3 [c4] A n c ty l r w Hr.out Hs.out Hf.out hl ht).mono ?_
  rintro e w2 ⟨A2, n2, cc2, act, rfl, hR2, hS2, hf2, hG2⟩
  have k3 : w2.cell? ⟨gc, 3, none⟩ = some (.slice A2 n2 cc2) := by rw [hR2.cell]; rfl
  have k4 : w2.cell? ⟨gc, 4, none⟩ = some c4 := by rw [hR2.cell]; rfl
  have f4 := hR2.frozen 4
  have HR2 := Lib.hid hR2
  have HS2 := Lib.hid hS2
  have HF2 := Lib.hid hf2
  have HG2 := Lib.hid hG2
  clear hR2 hS2 hf2 hG2
  go_wp2
  go_ret2
  exact ⟨A2, n2, cc2, _, _, _, rfl, HR2.out.set 4 _, HS2.out.only (only_set (only_refl _ _) 4 _) (HF2.out gc Hf.out), HF2.out, only_set HG2.out 4 _⟩

/-- What the other kind's unmarshal leaves. -/
def ReadsFt (w : World) (gc : Nat) (t : TypeId) (e : Ending) (w' : World) : Prop :=
  ∃ A n c x0 x1 x2, e = .returned (.tuple #[.iface 89 (.pointer (some ⟨gc, 0, none⟩)), .nilIface]) ∧ Row w' gc t [.int .u16 x0, .int .u8 x1, .int .i64 x2, .slice A n c] ∧ w.grownBy w' (some gc)

set_option maxRecDepth 20000 in
theorem ftunmarshal (gc : Nat) (t : TypeId) (c0 c1 c2 c3 : Value) (A : Option Addr) (n c : Nat) (ty : Nat) (l r : List UInt8) (w : World)
    (hr : Row w gc t [c0, c1, c2, c3]) (hs : Sl w (.slice A n c) (tlv ty l ++ r)) (hf : Far (.slice A n c) gc) (hl : l.length ≤ 65531) (ht : ty < 65536) :
    Calls Tryd.prog 37 #[.pointer (some ⟨gc, 0, none⟩), .slice A n c] w (ReadsFt w gc t) := by
  have Hr := Lib.hid hr
  have Hs := Lib.hid hs
  have Hf := Lib.hid hf
  clear hr hs hf
  go_enter Tryd.func37, Tryd.ntmps37
  go_wp2_with fail
  refine (phunmarshal gc t c0 c1 c2 c3 [] A n c ty l r w Hr.out Hs.out Hf.out hl ht).mono ?_
  rintro e w2 ⟨A2, n2, cc2, act, rfl, hR2, hS2, hf2, hG2⟩
  have HR2 := Lib.hid hR2
  have HG2 := Lib.hid hG2
  clear hR2 hS2 hf2 hG2
  go_wp2
  go_ret2
  exact ⟨A2, n2, cc2, _, _, _, rfl, HR2.out, HG2.out⟩

set_option maxRecDepth 20000 in
theorem build_sc (A : Option Addr) (n c : Nat) (l r : List UInt8) (w : World) (hs : Sl w (.slice A n c) (tlv 7 l ++ r)) (hl : l.length ≤ 65531) :
    Calls Tryd.prog 30 #[.int .u16 7, .slice A n c] w (RetK w 7 (.slice A n c) l) := by
  have Hs := Lib.hid hs
  clear hs
  go_enter Tryd.func30, Tryd.ntmps30
  go_wp2_with fail
  have hR := Row.new' (g := w.heap.size) w 111 #[.int .u16 0, .int .u8 0, .int .i64 0, .slice none 0 0, .slice none 0 0] rfl
  have hB : Below w.heap.size w (w.alloc (.cells #[.int .u16 0, .int .u8 0, .int .i64 0, .slice none 0 0, .slice none 0 0] 111)) := (Below.refl _ _).alloc (Nat.le_refl _) _
  refine (scunmarshal w.heap.size 111 _ _ _ _ _ A n c 7 l r _ hR (Hs.out.below hB) (Hs.out.far (by simp [tlv_length]; omega) (Nat.le_refl _)) hl (by omega)).mono ?_
  rintro e w2 ⟨A2, n2, cc2, x0, x1, x2, rfl, hR2, hS2, hf2, hG2⟩
  have HR2 := Lib.hid hR2
  have HS2 := Lib.hid hS2
  have HF2 := Lib.hid hf2
  have HB2 := Lib.hid (below_only hB (by simp) hG2 (Nat.le_refl _))
  clear hR hB hR2 hS2 hf2 hG2
  go_wp2
  go_ret2
  exact ⟨w.heap.size, .slice A2 n2 cc2, _, _, _, _, _, _, rfl, HR2.out, HS2.out, fun _ => HF2.out, Nat.le_refl _, HB2.out⟩

set_option maxRecDepth 20000 in
theorem build_ft (A : Option Addr) (n c : Nat) (r : List UInt8) (w : World) (hs : Sl w (.slice A n c) (tlv 49152 [] ++ r)) :
    Calls Tryd.prog 30 #[.int .u16 49152, .slice A n c] w (RetK w 49152 (.slice A n c) []) := by
  have Hs := Lib.hid hs
  clear hs
  go_enter Tryd.func30, Tryd.ntmps30
  go_wp2_with fail
  have hR := Row.new' (g := w.heap.size) w 91 #[.int .u16 0, .int .u8 0, .int .i64 0, .slice none 0 0] rfl
  have hB : Below w.heap.size w (w.alloc (.cells #[.int .u16 0, .int .u8 0, .int .i64 0, .slice none 0 0] 91)) := (Below.refl _ _).alloc (Nat.le_refl _) _
  refine (ftunmarshal w.heap.size 91 _ _ _ _ A n c 49152 [] r _ hR (Hs.out.below hB) (Hs.out.far (by simp [tlv_length]; omega) (Nat.le_refl _)) (by simp) (by omega)).mono ?_
  rintro e w2 ⟨A2, n2, cc2, x0, x1, x2, rfl, hR2, hG2⟩
  have HR2 := Lib.hid hR2
  have HB2 := Lib.hid (below_only hB (by simp) hG2 (Nat.le_refl _))
  clear hR hB hR2 hG2
  go_wp2
  go_ret2
  exact ⟨w.heap.size, .slice none 0 0, _, _, _, _, _, _, rfl, HR2.out, Sl.nil _, fun h => absurd h (by simp), Nat.le_refl _, HB2.out⟩

theorem build_k (ty : Nat) (A : Option Addr) (n c : Nat) (l r : List UInt8) (w : World) (hk : OkK ty l) (hs : Sl w (.slice A n c) (tlv ty l ++ r)) :
    Calls Tryd.prog 30 #[.int .u16 (ty : Int), .slice A n c] w (RetK w ty (.slice A n c) l) := by
  obtain ⟨rfl | ⟨rfl, rfl⟩, hl⟩ := hk
  · exact build_sc A n c l r w hs hl
  · exact build_ft A n c r w hs

set_option maxRecDepth 20000 in
theorem zzparam_any (ty : Nat) (A : Option Addr) (n c : Nat) (l : List UInt8) (w : World) (hk : OkK ty l) (hs : Sl w (.slice A n c) l) :
    Calls Tryd.prog 22 #[.agg #[.int .u16 (ty : Int), .slice A n c]] w fun e w' =>
      ∃ g s x0 x1 x2 A n c, e = .returned (.tuple #[.iface (kT ty) (.pointer (some ⟨g, 0, none⟩)), .nilIface]) ∧ Row w' g (kt ty) (.int .u16 x0 :: .int .u8 x1 :: .int .i64 x2 :: .slice A n c :: kRest ty s) ∧ Sl w' s l ∧ (0 < l.length → ∀ g, g < w.heap.size → Far s g) ∧ (0 < l.length → Far s g) ∧ w.heap.size ≤ g ∧ Below w.heap.size w w' := by
  have Hs := Lib.hid hs
  have hty : ty ≤ 49152 := by obtain ⟨rfl | ⟨rfl, _⟩, _⟩ := hk <;> omega
  have hl := hk.2
  have Hk := Lib.hid hk
  clear hs hk
  go_enter Tryd.func22, Tryd.ntmps22
  go_wp2_with fail
  have hN1 : Below w.heap.size w ((w.alloc (.cells #[.int .u16 (ty : Int), .slice A n c] 61)).alloc (.cells #[.int .u16 (ty : Int), .int .u8 0, .int .i64 0, .slice A n c] 84)) := ((Below.refl _ _).alloc (Nat.le_refl _) _).alloc (by simp) _
  have hR1 := Row.new' (g := w.heap.size + 1) (w.alloc (.cells #[.int .u16 (ty : Int), .slice A n c] 61)) 84 #[.int .u16 (ty : Int), .int .u8 0, .int .i64 0, .slice A n c] (by simp)
  have hP1 := Row.two ((Row.new w 61 #[.int .u16 (ty : Int), .slice A n c]).alloc (.cells #[.int .u16 (ty : Int), .int .u8 0, .int .i64 0, .slice A n c] 84))
  have hz1 : ((w.alloc (.cells #[.int .u16 (ty : Int), .slice A n c] 61)).alloc (.cells #[.int .u16 (ty : Int), .int .u8 0, .int .i64 0, .slice A n c] 84)).heap.size = w.heap.size + 2 := by simp
  generalize ((w.alloc (.cells #[.int .u16 (ty : Int), .slice A n c] 61)).alloc (.cells #[.int .u16 (ty : Int), .int .u8 0, .int .i64 0, .slice A n c] 84)) = W at hN1 hR1 hP1 hz1 ⊢
  refine (phmarshalN (w.heap.size + 1) _ (ty : Int) _ _ A n c [] l W hR1 (Hs.out.below hN1) hl (by omega) (by omega)).mono ?_
  rintro e w2 ⟨A2, n2, c2, rfl, hS2, hb2, hF2⟩
  rw [Int.toNat_natCast] at hS2
  have hN2 : Below w.heap.size w w2 := below_step hN1 (by omega) hb2
  have hp2 : w2.cell? ⟨w.heap.size, 0, none⟩ = some (.int .u16 (ty : Int)) := (hb2.cell (p := ⟨w.heap.size, 0, none⟩) (by simp only; omega)).trans hP1.1
  have HS2 := Lib.hid hS2
  have HF2 : Hid (∀ g, g < w.heap.size → Far (.slice A2 n2 c2) g) := Lib.hid (fun g hg => hF2 g (by omega))
  have HN2 := Lib.hid hN2
  clear hR1 hN1 hS2 hN2 hF2 hz1 hP1 hb2
  go_wp2_with fail
  refine (build_k ty A2 n2 c2 l [] w2 Hk.out (by rw [List.append_nil]; exact HS2.out)).mono ?_
  rintro e w3 ⟨g3, s3, x0, x1, x2, A3, n3, c3, rfl, hR3, hS3, hF3, hg3, hB3⟩
  have hfs : 0 < l.length → Far s3 g3 := fun hp => hF3 hp g3 (HS2.out.far (by rw [tlv_length]; omega) hg3)
  have HFS := Lib.hid hfs
  have HR3 := Lib.hid hR3
  have HS3 := Lib.hid hS3
  have HF3 := Lib.hid (fun (hp : 0 < l.length) g hg => hF3 hp g (HF2.out g hg))
  have HN3 := Lib.hid (HN2.out.trans (hB3.mono HN2.out.size))
  have Hg3 := Lib.hid (Nat.le_trans HN2.out.size hg3)
  clear hR3 hS3 hF3 hB3 hg3 hfs hp2
  go_wp2
  go_ret2
  exact ⟨g3, s3, x0, x1, x2, A3, n3, c3, rfl, HR3.out, HS3.out, HF3.out, HFS.out, Hg3.out, HN3.out⟩
end Go.Proofs.YtokkhfjlbnochaaDoor
