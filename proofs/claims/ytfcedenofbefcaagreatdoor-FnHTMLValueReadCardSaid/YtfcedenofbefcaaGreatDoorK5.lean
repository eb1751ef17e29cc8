import Derived.Test.YtfcedenofbefcaaGreatDoorK4
namespace Go.Proofs.YtfcedenofbefcaaGreatDoor
open Go.RowKit
set_option linter.unusedVariables false
set_option linter.unusedSimpArgs false
theorem Hd.p5 {A B C D E : Type} {x0 y0 : A} {x1 y1 : B} {x2 y2 : C} {x3 y3 : D} {x4 y4 : E} (h : Hd (some (x0, x1, x2, x3, x4) = some (y0, y1, y2, y3, y4))) : x0 = y0 ∧ x1 = y1 ∧ x2 = y2 ∧ x3 = y3 ∧ x4 = y4 := by
  have h := Option.some.inj h.out
  exact ⟨congrArg (fun z => z.1) h, congrArg (fun z => z.2.1) h, congrArg (fun z => z.2.2.1) h, congrArg (fun z => z.2.2.2.1) h, congrArg (fun z => z.2.2.2.2) h⟩
theorem Hd.p6 {A B C D E F : Type} {x0 y0 : A} {x1 y1 : B} {x2 y2 : C} {x3 y3 : D} {x4 y4 : E} {x5 y5 : F} (h : Hd (some (x0, x1, x2, x3, x4, x5) = some (y0, y1, y2, y3, y4, y5))) : x0 = y0 ∧ x1 = y1 ∧ x2 = y2 ∧ x3 = y3 ∧ x4 = y4 ∧ x5 = y5 := by
  have h := Option.some.inj h.out
  exact ⟨congrArg (fun z => z.1) h, congrArg (fun z => z.2.1) h, congrArg (fun z => z.2.2.1) h, congrArg (fun z => z.2.2.2.1) h, congrArg (fun z => z.2.2.2.2.1) h, congrArg (fun z => z.2.2.2.2.2) h⟩
theorem Hd.p7 {A B C D E F G : Type} {x0 y0 : A} {x1 y1 : B} {x2 y2 : C} {x3 y3 : D} {x4 y4 : E} {x5 y5 : F} {x6 y6 : G} (h : Hd (some (x0, x1, x2, x3, x4, x5, x6) = some (y0, y1, y2, y3, y4, y5, y6))) : x0 = y0 ∧ x1 = y1 ∧ x2 = y2 ∧ x3 = y3 ∧ x4 = y4 ∧ x5 = y5 ∧ x6 = y6 := by
  have h := Option.some.inj h.out
  exact ⟨congrArg (fun z => z.1) h, congrArg (fun z => z.2.1) h, congrArg (fun z => z.2.2.1) h, congrArg (fun z => z.2.2.2.1) h, congrArg (fun z => z.2.2.2.2.1) h, congrArg (fun z => z.2.2.2.2.2.1) h, congrArg (fun z => z.2.2.2.2.2.2) h⟩
theorem Hd.p8 {A B C D E F G H : Type} {x0 y0 : A} {x1 y1 : B} {x2 y2 : C} {x3 y3 : D} {x4 y4 : E} {x5 y5 : F} {x6 y6 : G} {x7 y7 : H} (h : Hd (some (x0, x1, x2, x3, x4, x5, x6, x7) = some (y0, y1, y2, y3, y4, y5, y6, y7))) : x0 = y0 ∧ x1 = y1 ∧ x2 = y2 ∧ x3 = y3 ∧ x4 = y4 ∧ x5 = y5 ∧ x6 = y6 ∧ x7 = y7 := by
  have h := Option.some.inj h.out
  exact ⟨congrArg (fun z => z.1) h, congrArg (fun z => z.2.1) h, congrArg (fun z => z.2.2.1) h, congrArg (fun z => z.2.2.2.1) h, congrArg (fun z => z.2.2.2.2.1) h, congrArg (fun z => z.2.2.2.2.2.1) h, congrArg (fun z => z.2.2.2.2.2.2.1) h, congrArg (fun z => z.2.2.2.2.2.2.2) h⟩
theorem Hd.p9 {A B C D E F G H I : Type} {x0 y0 : A} {x1 y1 : B} {x2 y2 : C} {x3 y3 : D} {x4 y4 : E} {x5 y5 : F} {x6 y6 : G} {x7 y7 : H} {x8 y8 : I} (h : Hd (some (x0, x1, x2, x3, x4, x5, x6, x7, x8) = some (y0, y1, y2, y3, y4, y5, y6, y7, y8))) : x0 = y0 ∧ x1 = y1 ∧ x2 = y2 ∧ x3 = y3 ∧ x4 = y4 ∧ x5 = y5 ∧ x6 = y6 ∧ x7 = y7 ∧ x8 = y8 := by
  have h := Option.some.inj h.out
  exact ⟨congrArg (fun z => z.1) h, congrArg (fun z => z.2.1) h, congrArg (fun z => z.2.2.1) h, congrArg (fun z => z.2.2.2.1) h, congrArg (fun z => z.2.2.2.2.1) h, congrArg (fun z => z.2.2.2.2.2.1) h, congrArg (fun z => z.2.2.2.2.2.2.1) h, congrArg (fun z => z.2.2.2.2.2.2.2.1) h, congrArg (fun z => z.2.2.2.2.2.2.2.2) h⟩
theorem Hd.p10 {A B C D E F G H I J : Type} {x0 y0 : A} {x1 y1 : B} {x2 y2 : C} {x3 y3 : D} {x4 y4 : E} {x5 y5 : F} {x6 y6 : G} {x7 y7 : H} {x8 y8 : I} {x9 y9 : J} (h : Hd (some (x0, x1, x2, x3, x4, x5, x6, x7, x8, x9) = some (y0, y1, y2, y3, y4, y5, y6, y7, y8, y9))) : x0 = y0 ∧ x1 = y1 ∧ x2 = y2 ∧ x3 = y3 ∧ x4 = y4 ∧ x5 = y5 ∧ x6 = y6 ∧ x7 = y7 ∧ x8 = y8 ∧ x9 = y9 := by
  have h := Option.some.inj h.out
  exact ⟨congrArg (fun z => z.1) h, congrArg (fun z => z.2.1) h, congrArg (fun z => z.2.2.1) h, congrArg (fun z => z.2.2.2.1) h, congrArg (fun z => z.2.2.2.2.1) h, congrArg (fun z => z.2.2.2.2.2.1) h, congrArg (fun z => z.2.2.2.2.2.2.1) h, congrArg (fun z => z.2.2.2.2.2.2.2.1) h, congrArg (fun z => z.2.2.2.2.2.2.2.2.1) h, congrArg (fun z => z.2.2.2.2.2.2.2.2.2) h⟩
theorem Hd.p11 {A B C D E F G H I J K : Type} {x0 y0 : A} {x1 y1 : B} {x2 y2 : C} {x3 y3 : D} {x4 y4 : E} {x5 y5 : F} {x6 y6 : G} {x7 y7 : H} {x8 y8 : I} {x9 y9 : J} {x10 y10 : K} (h : Hd (some (x0, x1, x2, x3, x4, x5, x6, x7, x8, x9, x10) = some (y0, y1, y2, y3, y4, y5, y6, y7, y8, y9, y10))) : x0 = y0 ∧ x1 = y1 ∧ x2 = y2 ∧ x3 = y3 ∧ x4 = y4 ∧ x5 = y5 ∧ x6 = y6 ∧ x7 = y7 ∧ x8 = y8 ∧ x9 = y9 ∧ x10 = y10 := by
  have h := Option.some.inj h.out
  exact ⟨congrArg (fun z => z.1) h, congrArg (fun z => z.2.1) h, congrArg (fun z => z.2.2.1) h, congrArg (fun z => z.2.2.2.1) h, congrArg (fun z => z.2.2.2.2.1) h, congrArg (fun z => z.2.2.2.2.2.1) h, congrArg (fun z => z.2.2.2.2.2.2.1) h, congrArg (fun z => z.2.2.2.2.2.2.2.1) h, congrArg (fun z => z.2.2.2.2.2.2.2.2.1) h, congrArg (fun z => z.2.2.2.2.2.2.2.2.2.1) h, congrArg (fun z => z.2.2.2.2.2.2.2.2.2.2) h⟩
theorem Hd.p12 {A B C D E F G H I J K L : Type} {x0 y0 : A} {x1 y1 : B} {x2 y2 : C} {x3 y3 : D} {x4 y4 : E} {x5 y5 : F} {x6 y6 : G} {x7 y7 : H} {x8 y8 : I} {x9 y9 : J} {x10 y10 : K} {x11 y11 : L} (h : Hd (some (x0, x1, x2, x3, x4, x5, x6, x7, x8, x9, x10, x11) = some (y0, y1, y2, y3, y4, y5, y6, y7, y8, y9, y10, y11))) : x0 = y0 ∧ x1 = y1 ∧ x2 = y2 ∧ x3 = y3 ∧ x4 = y4 ∧ x5 = y5 ∧ x6 = y6 ∧ x7 = y7 ∧ x8 = y8 ∧ x9 = y9 ∧ x10 = y10 ∧ x11 = y11 := by
  have h := Option.some.inj h.out
  exact ⟨congrArg (fun z => z.1) h, congrArg (fun z => z.2.1) h, congrArg (fun z => z.2.2.1) h, congrArg (fun z => z.2.2.2.1) h, congrArg (fun z => z.2.2.2.2.1) h, congrArg (fun z => z.2.2.2.2.2.1) h, congrArg (fun z => z.2.2.2.2.2.2.1) h, congrArg (fun z => z.2.2.2.2.2.2.2.1) h, congrArg (fun z => z.2.2.2.2.2.2.2.2.1) h, congrArg (fun z => z.2.2.2.2.2.2.2.2.2.1) h, congrArg (fun z => z.2.2.2.2.2.2.2.2.2.2.1) h, congrArg (fun z => z.2.2.2.2.2.2.2.2.2.2.2) h⟩
theorem Xl.LexemeV_calls {w : World} {l z b : Nat} {B : List Int} {EA : Addr} {ET : TypeId} {p s : Int} {tg : Bool} {tl : Int} {th : Int} {al : Int} {ah : Int} (h : Xl w l z b B ET EA p s tg tl th al ah) (u : Unit) (hu : Hd (sel B p s = some u)) :
    Calls Tryz.prog 88 #[.pointer (some ⟨z, 0, none⟩)] w fun e w' => (∃ A n c, e = .returned (.slice A n c) ∧ Sv b B s p A n c) ∧ Xl w' l z b B ET EA p s tg tl th al ah ∧ Fr l z w w' := by
  obtain ⟨A, n, c, e1, hS, _⟩ := slv_sv (b := b) (sel_of hu)
  refine (Xl.Lexeme_calls h u hu).mono ?_
  rintro e w' ⟨rfl, h2, h3⟩
  exact ⟨⟨A, n, c, by rw [e1], hS⟩, h2, h3⟩
theorem Xl.setTextS {w : World} {l z b : Nat} {B : List Int} {EA : Addr} {ET : TypeId} {p s : Int} {tg : Bool} {tl : Int} {th : Int} {al : Int} {ah : Int} (h : Xl w l z b B ET EA p s tg tl th al ah) (lo hi : Int) (hb : 0 ≤ lo ∧ lo ≤ hi ∧ hi ≤ B.length) : Xl (w.setCell ⟨l, 3, none⟩ (slv b lo hi)) l z b B ET EA p s tg lo hi al ah := by
  obtain ⟨A, n, c, e1, hS, _⟩ := slv_sv (b := b) hb
  rw [e1]
  exact h.setText lo hi A n c hS
theorem Xl.setAttrS {w : World} {l z b : Nat} {B : List Int} {EA : Addr} {ET : TypeId} {p s : Int} {tg : Bool} {tl : Int} {th : Int} {al : Int} {ah : Int} (h : Xl w l z b B ET EA p s tg tl th al ah) (lo hi : Int) (hb : 0 ≤ lo ∧ lo ≤ hi ∧ hi ≤ B.length) : Xl (w.setCell ⟨l, 4, none⟩ (slv b lo hi)) l z b B ET EA p s tg tl th lo hi := by
  obtain ⟨A, n, c, e1, hS, _⟩ := slv_sv (b := b) hb
  rw [e1]
  exact h.setAttr lo hi A n c hS
def elB (B : List Int) (lo hi i : Int) : Option Int := if 0 ≤ i ∧ i < hi - lo then some (B.getD (lo.toNat + i.toNat) 0) else none
theorem elB_at {w : World} {z b : Nat} {B : List Int} {ET : TypeId} {EA : Addr} {p s lo hi : Int} {A : Option Addr} {n c : Nat} (h : In w z b B ET EA p s) (hS : Sv b B lo hi A n c) (i x : Int) (hx : Hd (elB B lo hi i = some x)) :
    A = some ⟨b, lo.toNat, none⟩ ∧ (0 ≤ i ∧ i < (n : Int)) ∧ w.cell? ⟨b, lo.toNat + i.toNat, none⟩ = some (.int .u8 x) := by
  obtain ⟨s1, s2, s3, s4, s5⟩ := hS
  have hx := hx.out
  unfold elB at hx
  split at hx
  · rename_i hb
    have := Option.some.inj hx
    refine ⟨s5 (by omega), by omega, ?_⟩
    rw [← this]
    exact h.bytes _ (by omega)
  · cases hx
end Go.Proofs.YtfcedenofbefcaaGreatDoor
