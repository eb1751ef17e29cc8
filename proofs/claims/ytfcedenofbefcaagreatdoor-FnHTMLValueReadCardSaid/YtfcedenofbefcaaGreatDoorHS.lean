import Derived.Test.YtfcedenofbefcaaGreatDoorH2
import Derived.Test.YtfcedenofbefcaaGreatDoorH3
import Derived.Test.YtfcedenofbefcaaGreatDoorH5
import Derived.Test.YtfcedenofbefcaaGreatDoorK8
namespace Go.Proofs.YtfcedenofbefcaaGreatDoor
open Go.RowKit
set_option linter.unusedVariables false
set_option linter.unusedSimpArgs false

/-- The first of an answer is not 0. -/
def NZ {β : Type} (o : Option (Int × β)) : Prop := ∀ r, o = some r → r.1 ≠ 0
theorem NZ.none {β : Type} : NZ (none : Option (Int × β)) := fun _ h => by cases h
theorem NZ.some {β : Type} {c : Int} {x : β} (h : c ≠ 0) : NZ (some (c, x)) := fun r e => by cases e; exact h
theorem NZ.bind {α β : Type} {o : Option α} {f : α → Option (Int × β)} (h : ∀ a, NZ (f a)) : NZ (o.bind f) := fun r e => by
  cases o with
  | none => cases e
  | some a => exact h a r e
theorem NZ.ite {β : Type} {c : Prop} [Decidable c] {a b : Option (Int × β)} (h : NZ a) (h2 : NZ b) : NZ (if c then a else b) := by
  split
  · exact h
  · exact h2
theorem nz_l0 (K : Nat) (B : List Int) : ∀ (k : Nat) (p s tl th : Int), NZ (hreadMarkup.l0 K B k p s tl th) := by
  intro k
  induction k with
  | zero => intros; exact NZ.none
  | succ k ih =>
    intro p s tl th
    unfold hreadMarkup.l0
    repeat (first | exact ih _ _ _ _ | exact NZ.some (by decide) | exact NZ.none | apply NZ.ite | (apply NZ.bind; intro _))
theorem nz_l1 (K : Nat) (B : List Int) : ∀ (k : Nat) (p s tl th : Int), NZ (hreadMarkup.l1 K B k p s tl th) := by
  intro k
  induction k with
  | zero => intros; exact NZ.none
  | succ k ih =>
    intro p s tl th
    unfold hreadMarkup.l1
    repeat (first | exact ih _ _ _ _ | exact NZ.some (by decide) | exact NZ.none | apply NZ.ite | (apply NZ.bind; intro _))
theorem nz_l2 (K : Nat) (B : List Int) : ∀ (k : Nat) (p s tl th : Int), NZ (hreadMarkup.l2 K B k p s tl th) := by
  intro k
  induction k with
  | zero => intros; exact NZ.none
  | succ k ih =>
    intro p s tl th
    unfold hreadMarkup.l2
    repeat (first | exact ih _ _ _ _ | exact NZ.some (by decide) | exact NZ.none | apply NZ.ite | (apply NZ.bind; intro _))
theorem nz_rm {K : Nat} {B : List Int} {p s rt : Int} {tg : Bool} {tl th al ah x : Int} {y : Int × Int × Int × Int × Int × Int} (h : Hd (hreadMarkup.f K B p s rt tg tl th al ah = some (x, y))) : ¬ x = 0 := by
  have : NZ (hreadMarkup.f K B p s rt tg tl th al ah) := by
    unfold hreadMarkup.f
    repeat (first | exact nz_l0 _ _ _ _ _ _ _ | exact nz_l1 _ _ _ _ _ _ _ | exact nz_l2 _ _ _ _ _ _ _ | exact NZ.none | apply NZ.ite | (apply NZ.bind; intro _))
  exact this _ h.out
theorem nz_st {K : Nat} {B : List Int} {p s rt : Int} {tg : Bool} {tl th al ah x : Int} {y : Int × Int × Int × Int × Int × Bool × Int × Int} (h : Hd (hshiftStartTag.f K B p s rt tg tl th al ah = some (x, y))) : ¬ x = 0 := by
  have : NZ (hshiftStartTag.f K B p s rt tg tl th al ah) := by
    unfold hshiftStartTag.f
    repeat (first | exact NZ.some (by decide) | exact NZ.none | apply NZ.ite | (apply NZ.bind; intro _))
  exact this _ h.out
/-! (*loop.example/pub-g01476/pub/tdhtml.Lexer).Next -/
def hNLast.f (B : List Int) (p : Int) (s : Int) (rt : Int) (tg : Bool) (tl : Int) (th : Int) (al : Int) (ah : Int) : Option (Int × Int × Int × Int × Int × Int × Bool × Int × Int × Int × Int) :=
some (0, 0, 0, p, s, 0, false, 0, 0, al, ah)
set_option maxHeartbeats 8000000 in
set_option maxRecDepth 100000 in
theorem hNLast.calls {w0 : World} {l z b : Nat} {B : List Int} {EA : Addr} {p s : Int} {tl : Int} {th : Int} {al : Int} {ah : Int} (hI0 : Hl w0 l z b B 179 EA p s 0 false tl th al ah) (P0 : Hd (pk B p 0 = some 0)) (E0 : decide (0 < ps p s) = false) (E1 : atEnd B p 0 = true) (r0 : Int) (r1 : Int) (r2 : Int) (r3 : Int) (r4 : Int) (r5 : Int) (r6 : Bool) (r7 : Int) (r8 : Int) (r9 : Int) (r10 : Int) (H : Hd (hNLast.f B p s 0 false tl th al ah = some (r0, r1, r2, r3, r4, r5, r6, r7, r8, r9, r10))) :
    Calls Tryz.prog 33 #[.pointer (some ⟨l, 0, none⟩)] w0 fun e w' => e = .returned (.tuple #[.int .u32 r0, nxv b r0 r1 r2]) ∧ Hl w' l z b B 179 EA r3 r4 r5 r6 r7 r8 r9 r10 ∧ Fr l z w0 w' := by
  have hF0 : Fr l z w0 w0 := Fr.refl _ _ w0
  have c00 := hI0.c0
  have c10 := hI0.c1
  have c20 := hI0.c2
  have c30 := hI0.c3
  have c40 := hI0.c4
  have c50 := hI0.c5
  have c80 := hI0.c8
  have f0 := hI0.f
  obtain ⟨At0, nt0, ct0, hct0, hSt0⟩ := hI0.ct
  obtain ⟨Aa0, na0, ca0, hca0, hSa0⟩ := hI0.ca
  unfold hNLast.f at H
  go_enter Tryz.func33, Tryz.ntmps33
  go_wp2_with fail
  go_loopg [] 1 (fun gk w' => Hd (Hl w' l z b B 179 EA p s 0 false 0 0 al ah) ∧ Hd (Fr l z w0 w'))
  case atStart => exact ⟨⟨(show Hl _ l z b B 179 EA p s 0 false 0 0 al ah from by repeat (first | exact hI0 | apply Hl.drewN | apply Hl.drew | apply Hl.alloc | (apply Hl.setText; case hS => first | assumption | exact Sv.nil _ _) | (apply Hl.setAttr; case hS => first | assumption | exact Sv.nil _ _) | (apply Hl.setTextS; case hb => exact sel_of (by assumption)) | (apply Hl.setAttrS; case hb => exact sel_of (by assumption)) | apply Hl.setTag | apply Hl.setRaw | apply Hl.setTmpl))⟩, ⟨(show Fr l z w0 _ from by repeat (first | exact hF0 | apply Fr.drewN | apply Fr.drew | apply Fr.alloc | apply Fr.setl))⟩⟩
  case round =>
    obtain ⟨gI, gF⟩ := hrel
    have hI452 := gI.out; have hF452 := gF.out; clear gI gF
    have c0452 := hI452.c0
    have c1452 := hI452.c1
    have c2452 := hI452.c2
    have c3452 := hI452.c3
    have c4452 := hI452.c4
    have c5452 := hI452.c5
    have c8452 := hI452.c8
    have f452 := hI452.f
    obtain ⟨At452, nt452, ct452, hct452, hSt452⟩ := hI452.ct
    obtain ⟨Aa452, na452, ca452, hca452, hSa452⟩ := hI452.ca
    try clear c00 c10 c20 c30 c40 c50 c80 f0 hct0 hca0
    go_wp2_with fail
    refine (Hl.Peek_calls hI452 0 0 P0).mono ?_
    rintro e w' ⟨rfl, rfl⟩
    go_wp2_with fail
    refine (Hl.Err_end_calls hI452 E1).mono ?_
    rintro e w456 ⟨rfl, hI456, k456⟩
    have hF456 := hF452.trans k456
    have c0456 := hI456.c0
    have c1456 := hI456.c1
    have c2456 := hI456.c2
    have c3456 := hI456.c3
    have c4456 := hI456.c4
    have c5456 := hI456.c5
    have c8456 := hI456.c8
    have f456 := hI456.f
    obtain ⟨At456, nt456, ct456, hct456, hSt456⟩ := hI456.ct
    obtain ⟨Aa456, na456, ca456, hca456, hSa456⟩ := hI456.ca
    try clear c0452 c1452 c2452 c3452 c4452 c5452 c8452 f452 hct452 hca452
    go_wp2_with fail
    refine (Hl.Pos_calls hI456).mono ?_
    rintro e w457 ⟨rfl, hI457, k457⟩
    have hF457 := hF456.trans k457
    have c0457 := hI457.c0
    have c1457 := hI457.c1
    have c2457 := hI457.c2
    have c3457 := hI457.c3
    have c4457 := hI457.c4
    have c5457 := hI457.c5
    have c8457 := hI457.c8
    have f457 := hI457.f
    obtain ⟨At457, nt457, ct457, hct457, hSt457⟩ := hI457.ct
    obtain ⟨Aa457, na457, ca457, hca457, hSa457⟩ := hI457.ca
    try clear c0456 c1456 c2456 c3456 c4456 c5456 c8456 f456 hct456 hca456
    go_wp2_with fail
    go_ret2
    obtain ⟨rfl, rfl, rfl, rfl, rfl, rfl, rfl, rfl, rfl, rfl, rfl⟩ := H.p11
    exact ⟨(by first | rfl | (unfold nxv; rw [if_neg (nz_rm (by assumption))]; rfl) | (unfold nxv; rw [if_neg (nz_st (by assumption))]; rfl) | (unfold nxv; rw [if_neg (by decide), Hd.out ‹Hd (slv _ _ _ = _)›]; done) | (unfold nxv; rw [if_neg (by decide), Hd.out ‹Hd (slv _ _ _ = _)›]; rfl) | (simp only [nxv, *]; done) | (simp [nxv, *]; done)), hI457, hF457⟩

/-! (*loop.example/pub-g01476/pub/tdhtml.Lexer).Next -/
def hNEnd.f (K : Nat) (B : List Int) (p : Int) (s : Int) (rt : Int) (tg : Bool) (tl : Int) (th : Int) (al : Int) (ah : Int) : Option (Int × Int × Int × Int × Int × Int × Bool × Int × Int × Int × Int) :=
(hshiftEndTag.f K B (mv p 2) s 0 false 0 0 al ah).bind fun (i466, i467, p468, s469, tl470, th471) =>
some (6, i466, i467, p468, s469, 0, false, tl470, th471, al, ah)
set_option maxHeartbeats 8000000 in
set_option maxRecDepth 100000 in
theorem hNEnd.calls (K : Nat) {w0 : World} {l z b : Nat} {B : List Int} {EA : Addr} {p s : Int} {tl : Int} {th : Int} {al : Int} {ah : Int} (hI0 : Hl w0 l z b B 179 EA p s 0 false tl th al ah) (d : Int) (P0 : Hd (pk B p 0 = some 60)) (P1 : Hd (pk B p 1 = some 47)) (P2 : Hd (pk B p 2 = some d)) (P3 : Hd (pk B (mv p 2) 0 = some d)) (E0 : decide (0 < ps p s) = false) (hd1 : decide (97 ≤ d) = true) (hd2 : decide (d ≤ 122) = true) (hd62 : (d == 62) = false) (hd0 : (d == 0) = false) (hd3 : decide (d < 97) = false) (hd4 : decide (122 < d) = false) (r0 : Int) (r1 : Int) (r2 : Int) (r3 : Int) (r4 : Int) (r5 : Int) (r6 : Bool) (r7 : Int) (r8 : Int) (r9 : Int) (r10 : Int) (H : Hd (hNEnd.f K B p s 0 false tl th al ah = some (r0, r1, r2, r3, r4, r5, r6, r7, r8, r9, r10))) :
    Calls Tryz.prog 33 #[.pointer (some ⟨l, 0, none⟩)] w0 fun e w' => e = .returned (.tuple #[.int .u32 r0, nxv b r0 r1 r2]) ∧ Hl w' l z b B 179 EA r3 r4 r5 r6 r7 r8 r9 r10 ∧ Fr l z w0 w' := by
  have hF0 : Fr l z w0 w0 := Fr.refl _ _ w0
  have c00 := hI0.c0
  have c10 := hI0.c1
  have c20 := hI0.c2
  have c30 := hI0.c3
  have c40 := hI0.c4
  have c50 := hI0.c5
  have c80 := hI0.c8
  have f0 := hI0.f
  obtain ⟨At0, nt0, ct0, hct0, hSt0⟩ := hI0.ct
  obtain ⟨Aa0, na0, ca0, hca0, hSa0⟩ := hI0.ca
  unfold hNEnd.f at H
  have hd62n : (d != 62) = true := by simp only [bne, hd62, Bool.not_false]
  have hd0n : (d != 0) = true := by simp only [bne, hd0, Bool.not_false]
  go_enter Tryz.func33, Tryz.ntmps33
  go_wp2_with fail
  go_loopg [] 1 (fun gk w' => Hd (Hl w' l z b B 179 EA p s 0 false 0 0 al ah) ∧ Hd (Fr l z w0 w'))
  case atStart => exact ⟨⟨(show Hl _ l z b B 179 EA p s 0 false 0 0 al ah from by repeat (first | exact hI0 | apply Hl.drewN | apply Hl.drew | apply Hl.alloc | (apply Hl.setText; case hS => first | assumption | exact Sv.nil _ _) | (apply Hl.setAttr; case hS => first | assumption | exact Sv.nil _ _) | (apply Hl.setTextS; case hb => exact sel_of (by assumption)) | (apply Hl.setAttrS; case hb => exact sel_of (by assumption)) | apply Hl.setTag | apply Hl.setRaw | apply Hl.setTmpl))⟩, ⟨(show Fr l z w0 _ from by repeat (first | exact hF0 | apply Fr.drewN | apply Fr.drew | apply Fr.alloc | apply Fr.setl))⟩⟩
  case round =>
    obtain ⟨gI, gF⟩ := hrel
    have hI459 := gI.out; have hF459 := gF.out; clear gI gF
    have c0459 := hI459.c0
    have c1459 := hI459.c1
    have c2459 := hI459.c2
    have c3459 := hI459.c3
    have c4459 := hI459.c4
    have c5459 := hI459.c5
    have c8459 := hI459.c8
    have f459 := hI459.f
    obtain ⟨At459, nt459, ct459, hct459, hSt459⟩ := hI459.ct
    obtain ⟨Aa459, na459, ca459, hca459, hSa459⟩ := hI459.ca
    try clear c00 c10 c20 c30 c40 c50 c80 f0 hct0 hca0
    go_wp2_with fail
    refine (Hl.Peek_calls hI459 0 60 P0).mono ?_
    rintro e w' ⟨rfl, rfl⟩
    go_wp2_with fail
    refine (Hl.Peek_calls hI459 1 47 P1).mono ?_
    rintro e w' ⟨rfl, rfl⟩
    go_wp2_with fail
    refine (Hl.Peek_calls hI459 2 d P2).mono ?_
    rintro e w' ⟨rfl, rfl⟩
    go_wp2_with fail
    refine (Hl.Peek_calls hI459 2 d P2).mono ?_
    rintro e w' ⟨rfl, rfl⟩
    go_wp2_with fail
    refine (Hl.Pos_calls hI459).mono ?_
    rintro e w463 ⟨rfl, hI463, k463⟩
    have hF463 := hF459.trans k463
    have c0463 := hI463.c0
    have c1463 := hI463.c1
    have c2463 := hI463.c2
    have c3463 := hI463.c3
    have c4463 := hI463.c4
    have c5463 := hI463.c5
    have c8463 := hI463.c8
    have f463 := hI463.f
    obtain ⟨At463, nt463, ct463, hct463, hSt463⟩ := hI463.ct
    obtain ⟨Aa463, na463, ca463, hca463, hSa463⟩ := hI463.ca
    try clear c0459 c1459 c2459 c3459 c4459 c5459 c8459 f459 hct459 hca459
    go_wp2_with fail
    refine (Hl.Move_calls hI463 2).mono ?_
    rintro e w464 ⟨rfl, hI464, k464⟩
    have hF464 := hF463.trans k464
    have c0464 := hI464.c0
    have c1464 := hI464.c1
    have c2464 := hI464.c2
    have c3464 := hI464.c3
    have c4464 := hI464.c4
    have c5464 := hI464.c5
    have c8464 := hI464.c8
    have f464 := hI464.f
    obtain ⟨At464, nt464, ct464, hct464, hSt464⟩ := hI464.ct
    obtain ⟨Aa464, na464, ca464, hca464, hSa464⟩ := hI464.ca
    try clear c0463 c1463 c2463 c3463 c4463 c5463 c8463 f463 hct463 hca463
    go_wp2_with fail
    refine (Hl.Peek_calls hI464 0 d P3).mono ?_
    rintro e w' ⟨rfl, rfl⟩
    obtain ⟨⟨i466, i467, p468, s469, tl470, th471⟩, A472, HN⟩ := H.bind; clear H; have H := HN; clear HN
    try dsimp only at H
    go_wp2_with fail
    refine (hshiftEndTag.calls K hI464  i466 i467 p468 s469 tl470 th471 A472).mono ?_
    rintro e w473 ⟨rfl, hI473, k473⟩
    have hF473 := hF464.trans k473
    have c0473 := hI473.c0
    have c1473 := hI473.c1
    have c2473 := hI473.c2
    have c3473 := hI473.c3
    have c4473 := hI473.c4
    have c5473 := hI473.c5
    have c8473 := hI473.c8
    have f473 := hI473.f
    obtain ⟨At473, nt473, ct473, hct473, hSt473⟩ := hI473.ct
    obtain ⟨Aa473, na473, ca473, hca473, hSa473⟩ := hI473.ca
    try clear c0464 c1464 c2464 c3464 c4464 c5464 c8464 f464 hct464 hca464
    go_wp2_with fail
    go_ret2
    obtain ⟨rfl, rfl, rfl, rfl, rfl, rfl, rfl, rfl, rfl, rfl, rfl⟩ := H.p11
    exact ⟨(by first | rfl | (unfold nxv; rw [if_neg (nz_rm (by assumption))]; rfl) | (unfold nxv; rw [if_neg (nz_st (by assumption))]; rfl) | (unfold nxv; rw [if_neg (by decide), Hd.out ‹Hd (slv _ _ _ = _)›]; done) | (unfold nxv; rw [if_neg (by decide), Hd.out ‹Hd (slv _ _ _ = _)›]; rfl) | (simp only [nxv, *]; done) | (simp [nxv, *]; done)), hI473, hF473⟩

/-! (*loop.example/pub-g01476/pub/tdhtml.Lexer).Next -/
def hNMark.f (K : Nat) (B : List Int) (p : Int) (s : Int) (rt : Int) (tg : Bool) (tl : Int) (th : Int) (al : Int) (ah : Int) : Option (Int × Int × Int × Int × Int × Int × Bool × Int × Int × Int × Int) :=
(hreadMarkup.f K B (mv p 2) s 0 false 0 0 al ah).bind fun (x482, i483, i484, p485, s486, tl487, th488) =>
some (x482, i483, i484, p485, s486, 0, false, tl487, th488, al, ah)
set_option maxHeartbeats 8000000 in
set_option maxRecDepth 100000 in
theorem hNMark.calls (K : Nat) {w0 : World} {l z b : Nat} {B : List Int} {EA : Addr} {p s : Int} {tl : Int} {th : Int} {al : Int} {ah : Int} (hI0 : Hl w0 l z b B 179 EA p s 0 false tl th al ah) (P0 : Hd (pk B p 0 = some 60)) (P1 : Hd (pk B p 1 = some 33)) (E0 : decide (0 < ps p s) = false) (r0 : Int) (r1 : Int) (r2 : Int) (r3 : Int) (r4 : Int) (r5 : Int) (r6 : Bool) (r7 : Int) (r8 : Int) (r9 : Int) (r10 : Int) (H : Hd (hNMark.f K B p s 0 false tl th al ah = some (r0, r1, r2, r3, r4, r5, r6, r7, r8, r9, r10))) :
    Calls Tryz.prog 33 #[.pointer (some ⟨l, 0, none⟩)] w0 fun e w' => e = .returned (.tuple #[.int .u32 r0, nxv b r0 r1 r2]) ∧ Hl w' l z b B 179 EA r3 r4 r5 r6 r7 r8 r9 r10 ∧ Fr l z w0 w' := by
  have hF0 : Fr l z w0 w0 := Fr.refl _ _ w0
  have c00 := hI0.c0
  have c10 := hI0.c1
  have c20 := hI0.c2
  have c30 := hI0.c3
  have c40 := hI0.c4
  have c50 := hI0.c5
  have c80 := hI0.c8
  have f0 := hI0.f
  obtain ⟨At0, nt0, ct0, hct0, hSt0⟩ := hI0.ct
  obtain ⟨Aa0, na0, ca0, hca0, hSa0⟩ := hI0.ca
  unfold hNMark.f at H
  go_enter Tryz.func33, Tryz.ntmps33
  go_wp2_with fail
  go_loopg [] 1 (fun gk w' => Hd (Hl w' l z b B 179 EA p s 0 false 0 0 al ah) ∧ Hd (Fr l z w0 w'))
  case atStart => exact ⟨⟨(show Hl _ l z b B 179 EA p s 0 false 0 0 al ah from by repeat (first | exact hI0 | apply Hl.drewN | apply Hl.drew | apply Hl.alloc | (apply Hl.setText; case hS => first | assumption | exact Sv.nil _ _) | (apply Hl.setAttr; case hS => first | assumption | exact Sv.nil _ _) | (apply Hl.setTextS; case hb => exact sel_of (by assumption)) | (apply Hl.setAttrS; case hb => exact sel_of (by assumption)) | apply Hl.setTag | apply Hl.setRaw | apply Hl.setTmpl))⟩, ⟨(show Fr l z w0 _ from by repeat (first | exact hF0 | apply Fr.drewN | apply Fr.drew | apply Fr.alloc | apply Fr.setl))⟩⟩
  case round =>
    obtain ⟨gI, gF⟩ := hrel
    have hI475 := gI.out; have hF475 := gF.out; clear gI gF
    have c0475 := hI475.c0
    have c1475 := hI475.c1
    have c2475 := hI475.c2
    have c3475 := hI475.c3
    have c4475 := hI475.c4
    have c5475 := hI475.c5
    have c8475 := hI475.c8
    have f475 := hI475.f
    obtain ⟨At475, nt475, ct475, hct475, hSt475⟩ := hI475.ct
    obtain ⟨Aa475, na475, ca475, hca475, hSa475⟩ := hI475.ca
    try clear c00 c10 c20 c30 c40 c50 c80 f0 hct0 hca0
    go_wp2_with fail
    refine (Hl.Peek_calls hI475 0 60 P0).mono ?_
    rintro e w' ⟨rfl, rfl⟩
    go_wp2_with fail
    refine (Hl.Peek_calls hI475 1 33 P1).mono ?_
    rintro e w' ⟨rfl, rfl⟩
    go_wp2_with fail
    refine (Hl.Pos_calls hI475).mono ?_
    rintro e w479 ⟨rfl, hI479, k479⟩
    have hF479 := hF475.trans k479
    have c0479 := hI479.c0
    have c1479 := hI479.c1
    have c2479 := hI479.c2
    have c3479 := hI479.c3
    have c4479 := hI479.c4
    have c5479 := hI479.c5
    have c8479 := hI479.c8
    have f479 := hI479.f
    obtain ⟨At479, nt479, ct479, hct479, hSt479⟩ := hI479.ct
    obtain ⟨Aa479, na479, ca479, hca479, hSa479⟩ := hI479.ca
    try clear c0475 c1475 c2475 c3475 c4475 c5475 c8475 f475 hct475 hca475
    go_wp2_with fail
    refine (Hl.Move_calls hI479 2).mono ?_
    rintro e w481 ⟨rfl, hI481, k481⟩
    have hF481 := hF479.trans k481
    have c0481 := hI481.c0
    have c1481 := hI481.c1
    have c2481 := hI481.c2
    have c3481 := hI481.c3
    have c4481 := hI481.c4
    have c5481 := hI481.c5
    have c8481 := hI481.c8
    have f481 := hI481.f
    obtain ⟨At481, nt481, ct481, hct481, hSt481⟩ := hI481.ct
    obtain ⟨Aa481, na481, ca481, hca481, hSa481⟩ := hI481.ca
    try clear c0479 c1479 c2479 c3479 c4479 c5479 c8479 f479 hct479 hca479
    obtain ⟨⟨x482, i483, i484, p485, s486, tl487, th488⟩, A489, HN⟩ := H.bind; clear H; have H := HN; clear HN
    try dsimp only at H
    go_wp2_with fail
    refine (hreadMarkup.calls K hI481  x482 i483 i484 p485 s486 tl487 th488 A489).mono ?_
    rintro e w490 ⟨rfl, hI490, k490⟩
    have hF490 := hF481.trans k490
    have c0490 := hI490.c0
    have c1490 := hI490.c1
    have c2490 := hI490.c2
    have c3490 := hI490.c3
    have c4490 := hI490.c4
    have c5490 := hI490.c5
    have c8490 := hI490.c8
    have f490 := hI490.f
    obtain ⟨At490, nt490, ct490, hct490, hSt490⟩ := hI490.ct
    obtain ⟨Aa490, na490, ca490, hca490, hSa490⟩ := hI490.ca
    try clear c0481 c1481 c2481 c3481 c4481 c5481 c8481 f481 hct481 hca481
    go_wp2_with fail
    go_ret2
    obtain ⟨rfl, rfl, rfl, rfl, rfl, rfl, rfl, rfl, rfl, rfl, rfl⟩ := H.p11
    exact ⟨(by first | rfl | (unfold nxv; rw [if_neg (nz_rm (by assumption))]; rfl) | (unfold nxv; rw [if_neg (nz_st (by assumption))]; rfl) | (unfold nxv; rw [if_neg (by decide), Hd.out ‹Hd (slv _ _ _ = _)›]; done) | (unfold nxv; rw [if_neg (by decide), Hd.out ‹Hd (slv _ _ _ = _)›]; rfl) | (simp only [nxv, *]; done) | (simp [nxv, *]; done)), hI490, hF490⟩

/-! (*loop.example/pub-g01476/pub/tdhtml.Lexer).Next -/
def hNStart.f (K : Nat) (B : List Int) (p : Int) (s : Int) (rt : Int) (tg : Bool) (tl : Int) (th : Int) (al : Int) (ah : Int) : Option (Int × Int × Int × Int × Int × Int × Bool × Int × Int × Int × Int) :=
(hshiftStartTag.f K B (mv p 1) s 0 true 0 0 al ah).bind fun (x499, i500, i501, p502, s503, rt504, tg505, tl506, th507) =>
some (x499, i500, i501, p502, s503, rt504, tg505, tl506, th507, al, ah)
set_option maxHeartbeats 8000000 in
set_option maxRecDepth 100000 in
theorem hNStart.calls (K : Nat) {w0 : World} {l z b : Nat} {B : List Int} {EA : Addr} {p s : Int} {tl : Int} {th : Int} {al : Int} {ah : Int} (hI0 : Hl w0 l z b B 179 EA p s 0 false tl th al ah) (d : Int) (P0 : Hd (pk B p 0 = some 60)) (P1 : Hd (pk B p 1 = some d)) (E0 : decide (0 < ps p s) = false) (hd1 : decide (97 ≤ d) = true) (hd2 : decide (d ≤ 122) = true) (hd62 : (d == 62) = false) (hd0 : (d == 0) = false) (hd3 : decide (d < 97) = false) (hd4 : decide (122 < d) = false) (hd47 : (d == 47) = false) (hd33 : (d == 33) = false) (hd63 : (d == 63) = false) (r0 : Int) (r1 : Int) (r2 : Int) (r3 : Int) (r4 : Int) (r5 : Int) (r6 : Bool) (r7 : Int) (r8 : Int) (r9 : Int) (r10 : Int) (H : Hd (hNStart.f K B p s 0 false tl th al ah = some (r0, r1, r2, r3, r4, r5, r6, r7, r8, r9, r10))) :
    Calls Tryz.prog 33 #[.pointer (some ⟨l, 0, none⟩)] w0 fun e w' => e = .returned (.tuple #[.int .u32 r0, nxv b r0 r1 r2]) ∧ Hl w' l z b B 179 EA r3 r4 r5 r6 r7 r8 r9 r10 ∧ Fr l z w0 w' := by
  have hF0 : Fr l z w0 w0 := Fr.refl _ _ w0
  have c00 := hI0.c0
  have c10 := hI0.c1
  have c20 := hI0.c2
  have c30 := hI0.c3
  have c40 := hI0.c4
  have c50 := hI0.c5
  have c80 := hI0.c8
  have f0 := hI0.f
  obtain ⟨At0, nt0, ct0, hct0, hSt0⟩ := hI0.ct
  obtain ⟨Aa0, na0, ca0, hca0, hSa0⟩ := hI0.ca
  unfold hNStart.f at H
  have hd62n : (d != 62) = true := by simp only [bne, hd62, Bool.not_false]
  have hd0n : (d != 0) = true := by simp only [bne, hd0, Bool.not_false]
  have hd47n : (d != 47) = true := by simp only [bne, hd47, Bool.not_false]
  have hd33n : (d != 33) = true := by simp only [bne, hd33, Bool.not_false]
  have hd63n : (d != 63) = true := by simp only [bne, hd63, Bool.not_false]
  go_enter Tryz.func33, Tryz.ntmps33
  go_wp2_with fail
  go_loopg [] 1 (fun gk w' => Hd (Hl w' l z b B 179 EA p s 0 false 0 0 al ah) ∧ Hd (Fr l z w0 w'))
  case atStart => exact ⟨⟨(show Hl _ l z b B 179 EA p s 0 false 0 0 al ah from by repeat (first | exact hI0 | apply Hl.drewN | apply Hl.drew | apply Hl.alloc | (apply Hl.setText; case hS => first | assumption | exact Sv.nil _ _) | (apply Hl.setAttr; case hS => first | assumption | exact Sv.nil _ _) | (apply Hl.setTextS; case hb => exact sel_of (by assumption)) | (apply Hl.setAttrS; case hb => exact sel_of (by assumption)) | apply Hl.setTag | apply Hl.setRaw | apply Hl.setTmpl))⟩, ⟨(show Fr l z w0 _ from by repeat (first | exact hF0 | apply Fr.drewN | apply Fr.drew | apply Fr.alloc | apply Fr.setl))⟩⟩
  case round =>
    obtain ⟨gI, gF⟩ := hrel
    have hI492 := gI.out; have hF492 := gF.out; clear gI gF
    have c0492 := hI492.c0
    have c1492 := hI492.c1
    have c2492 := hI492.c2
    have c3492 := hI492.c3
    have c4492 := hI492.c4
    have c5492 := hI492.c5
    have c8492 := hI492.c8
    have f492 := hI492.f
    obtain ⟨At492, nt492, ct492, hct492, hSt492⟩ := hI492.ct
    obtain ⟨Aa492, na492, ca492, hca492, hSa492⟩ := hI492.ca
    try clear c00 c10 c20 c30 c40 c50 c80 f0 hct0 hca0
    go_wp2_with fail
    refine (Hl.Peek_calls hI492 0 60 P0).mono ?_
    rintro e w' ⟨rfl, rfl⟩
    go_wp2_with fail
    refine (Hl.Peek_calls hI492 1 d P1).mono ?_
    rintro e w' ⟨rfl, rfl⟩
    go_wp2_with fail
    refine (Hl.Pos_calls hI492).mono ?_
    rintro e w496 ⟨rfl, hI496, k496⟩
    have hF496 := hF492.trans k496
    have c0496 := hI496.c0
    have c1496 := hI496.c1
    have c2496 := hI496.c2
    have c3496 := hI496.c3
    have c4496 := hI496.c4
    have c5496 := hI496.c5
    have c8496 := hI496.c8
    have f496 := hI496.f
    obtain ⟨At496, nt496, ct496, hct496, hSt496⟩ := hI496.ct
    obtain ⟨Aa496, na496, ca496, hca496, hSa496⟩ := hI496.ca
    try clear c0492 c1492 c2492 c3492 c4492 c5492 c8492 f492 hct492 hca492
    go_wp2_with fail
    refine (Hl.Move_calls hI496 1).mono ?_
    rintro e w498 ⟨rfl, hI498, k498⟩
    have hF498 := hF496.trans k498
    have c0498 := hI498.c0
    have c1498 := hI498.c1
    have c2498 := hI498.c2
    have c3498 := hI498.c3
    have c4498 := hI498.c4
    have c5498 := hI498.c5
    have c8498 := hI498.c8
    have f498 := hI498.f
    obtain ⟨At498, nt498, ct498, hct498, hSt498⟩ := hI498.ct
    obtain ⟨Aa498, na498, ca498, hca498, hSa498⟩ := hI498.ca
    try clear c0496 c1496 c2496 c3496 c4496 c5496 c8496 f496 hct496 hca496
    obtain ⟨⟨x499, i500, i501, p502, s503, rt504, tg505, tl506, th507⟩, A508, HN⟩ := H.bind; clear H; have H := HN; clear HN
    try dsimp only at H
    go_wp2_with fail
    refine (hshiftStartTag.calls K (show Hl _ l z b B 179 EA (mv p 1) s 0 true 0 0 al ah from by repeat (first | exact hI498 | apply Hl.drewN | apply Hl.drew | apply Hl.alloc | (apply Hl.setText; case hS => first | assumption | exact Sv.nil _ _) | (apply Hl.setAttr; case hS => first | assumption | exact Sv.nil _ _) | (apply Hl.setTextS; case hb => exact sel_of (by assumption)) | (apply Hl.setAttrS; case hb => exact sel_of (by assumption)) | apply Hl.setTag | apply Hl.setRaw | apply Hl.setTmpl))  x499 i500 i501 p502 s503 rt504 tg505 tl506 th507 A508).mono ?_
    rintro e w509 ⟨rfl, hI509, k509⟩
    have hF509 := (show Fr l z w0 _ by repeat (first | exact hF498 | apply Fr.drewN | apply Fr.drew | apply Fr.alloc | apply Fr.setl)).trans k509
    have c0509 := hI509.c0
    have c1509 := hI509.c1
    have c2509 := hI509.c2
    have c3509 := hI509.c3
    have c4509 := hI509.c4
    have c5509 := hI509.c5
    have c8509 := hI509.c8
    have f509 := hI509.f
    obtain ⟨At509, nt509, ct509, hct509, hSt509⟩ := hI509.ct
    obtain ⟨Aa509, na509, ca509, hca509, hSa509⟩ := hI509.ca
    try clear c0498 c1498 c2498 c3498 c4498 c5498 c8498 f498 hct498 hca498
    go_wp2_with fail
    go_ret2
    obtain ⟨rfl, rfl, rfl, rfl, rfl, rfl, rfl, rfl, rfl, rfl, rfl⟩ := H.p11
    exact ⟨(by first | rfl | (unfold nxv; rw [if_neg (nz_rm (by assumption))]; rfl) | (unfold nxv; rw [if_neg (nz_st (by assumption))]; rfl) | (unfold nxv; rw [if_neg (by decide), Hd.out ‹Hd (slv _ _ _ = _)›]; done) | (unfold nxv; rw [if_neg (by decide), Hd.out ‹Hd (slv _ _ _ = _)›]; rfl) | (simp only [nxv, *]; done) | (simp [nxv, *]; done)), hI509, hF509⟩
end Go.Proofs.YtfcedenofbefcaaGreatDoor
