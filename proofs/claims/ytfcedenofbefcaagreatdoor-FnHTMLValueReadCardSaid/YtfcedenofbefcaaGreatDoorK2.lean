import Derived.Test.YtfcedenofbefcaaGreatDoorK1
namespace Go.Proofs.YtfcedenofbefcaaGreatDoor
open Go.RowKit
set_option linter.unusedVariables false
set_option linter.unusedSimpArgs false
/-- The lexer at l over the input at z. -/
structure Xl (w : World) (l z b : Nat) (B : List Int) (ET : TypeId) (EA : Addr) (p s : Int) (tg : Bool) (tl : Int) (th : Int) (al : Int) (ah : Int) : Prop where
  inp : In w z b B ET EA p s
  lex : ∃ (A1 : Option Addr) (n1 c1 : Nat) (A2 : Option Addr) (n2 c2 : Nat), w.heap[l]? = some (.cells #[.pointer (some ⟨z, 0, none⟩), .nilIface, .bool tg, .slice A1 n1 c1, .slice A2 n2 c2] 81 (0, 0)) ∧ Sv b B tl th A1 n1 c1 ∧ Sv b B al ah A2 n2 c2
  lz : l ≠ z
  lb : l ≠ b
  l0 : l ≠ 0
theorem Xl.lift {w w' : World} {l z b : Nat} {B : List Int} {ET : TypeId} {EA : Addr} {p s : Int} {tg : Bool} {tl : Int} {th : Int} {al : Int} {ah : Int} {p' s' : Int} (h : Xl w l z b B ET EA p s tg tl th al ah) (hI : In w' z b B ET EA p' s') (k : Fr z z w w') : Xl w' l z b B ET EA p' s' tg tl th al ah := by
  obtain ⟨A1, n1, c1, A2, n2, c2, hb, h1, h2⟩ := h.lex
  exact ⟨hI, ⟨A1, n1, c1, A2, n2, c2, (k.block l (lt_of_heap hb) h.lz h.lz).trans hb, h1, h2⟩, h.lz, h.lb, h.l0⟩
theorem Xl.drewN {w : World} {l z b : Nat} {B : List Int} {ET : TypeId} {EA : Addr} {p s : Int} {tg : Bool} {tl : Int} {th : Int} {al : Int} {ah : Int} (h : Xl w l z b B ET EA p s tg tl th al ah) (n : Nat) : Xl (w.drewN n) l z b B ET EA p s tg tl th al ah := h.lift (h.inp.drewN n) ((Fr.refl z z w).drewN n)
theorem Xl.drew {w : World} {l z b : Nat} {B : List Int} {ET : TypeId} {EA : Addr} {p s : Int} {tg : Bool} {tl : Int} {th : Int} {al : Int} {ah : Int} (h : Xl w l z b B ET EA p s tg tl th al ah) : Xl w.drew l z b B ET EA p s tg tl th al ah := h.lift h.inp.drew (Fr.refl z z w).drew
theorem Xl.alloc {w : World} {l z b : Nat} {B : List Int} {ET : TypeId} {EA : Addr} {p s : Int} {tg : Bool} {tl : Int} {th : Int} {al : Int} {ah : Int} (h : Xl w l z b B ET EA p s tg tl th al ah) (o : Obj) : Xl (w.alloc o) l z b B ET EA p s tg tl th al ah := h.lift (h.inp.alloc o) ((Fr.refl z z w).alloc o)
theorem Xl.below {w w' : World} {l z b : Nat} {B : List Int} {ET : TypeId} {EA : Addr} {p s : Int} {tg : Bool} {tl : Int} {th : Int} {al : Int} {ah : Int} (h : Xl w l z b B ET EA p s tg tl th al ah) (k : Below w.heap.size w w') : Xl w' l z b B ET EA p s tg tl th al ah := by
  obtain ⟨c, hc, hi⟩ := h.inp.inp
  exact h.lift (h.inp.fr (Fr.below k) fun c hz => (k.block z (lt_of_heap hz)).trans hz) (Fr.below k)
theorem Xl.c0 {w : World} {l z b : Nat} {B : List Int} {ET : TypeId} {EA : Addr} {p s : Int} {tg : Bool} {tl : Int} {th : Int} {al : Int} {ah : Int} (h : Xl w l z b B ET EA p s tg tl th al ah) : w.cell? ⟨l, 0, none⟩ = some (.pointer (some ⟨z, 0, none⟩)) := by
  obtain ⟨A1, n1, c1, A2, n2, c2, hb, h1, h2⟩ := h.lex
  exact (cell_of_block hb 0).trans rfl
theorem Xl.c1 {w : World} {l z b : Nat} {B : List Int} {ET : TypeId} {EA : Addr} {p s : Int} {tg : Bool} {tl : Int} {th : Int} {al : Int} {ah : Int} (h : Xl w l z b B ET EA p s tg tl th al ah) : w.cell? ⟨l, 1, none⟩ = some (.nilIface) := by
  obtain ⟨A1, n1, c1, A2, n2, c2, hb, h1, h2⟩ := h.lex
  exact (cell_of_block hb 1).trans rfl
theorem Xl.c2 {w : World} {l z b : Nat} {B : List Int} {ET : TypeId} {EA : Addr} {p s : Int} {tg : Bool} {tl : Int} {th : Int} {al : Int} {ah : Int} (h : Xl w l z b B ET EA p s tg tl th al ah) : w.cell? ⟨l, 2, none⟩ = some (.bool tg) := by
  obtain ⟨A1, n1, c1, A2, n2, c2, hb, h1, h2⟩ := h.lex
  exact (cell_of_block hb 2).trans rfl
theorem Xl.ct {w : World} {l z b : Nat} {B : List Int} {ET : TypeId} {EA : Addr} {p s : Int} {tg : Bool} {tl : Int} {th : Int} {al : Int} {ah : Int} (h : Xl w l z b B ET EA p s tg tl th al ah) : ∃ (A : Option Addr) (n c : Nat), w.cell? ⟨l, 3, none⟩ = some (.slice A n c) ∧ Sv b B tl th A n c := by
  obtain ⟨A1, n1, c1, A2, n2, c2, hb, h1, h2⟩ := h.lex
  exact ⟨_, _, _, (cell_of_block hb 3).trans rfl, h1⟩
theorem Xl.ca {w : World} {l z b : Nat} {B : List Int} {ET : TypeId} {EA : Addr} {p s : Int} {tg : Bool} {tl : Int} {th : Int} {al : Int} {ah : Int} (h : Xl w l z b B ET EA p s tg tl th al ah) : ∃ (A : Option Addr) (n c : Nat), w.cell? ⟨l, 4, none⟩ = some (.slice A n c) ∧ Sv b B al ah A n c := by
  obtain ⟨A1, n1, c1, A2, n2, c2, hb, h1, h2⟩ := h.lex
  exact ⟨_, _, _, (cell_of_block hb 4).trans rfl, h2⟩
theorem Xl.f {w : World} {l z b : Nat} {B : List Int} {ET : TypeId} {EA : Addr} {p s : Int} {tg : Bool} {tl : Int} {th : Int} {al : Int} {ah : Int} (h : Xl w l z b B ET EA p s tg tl th al ah) (j : Nat) : w.frozen? ⟨l, j, none⟩ = false := by
  obtain ⟨A1, n1, c1, A2, n2, c2, hb, h1, h2⟩ := h.lex
  exact frozen_of_block hb j
theorem Xl.setTag {w : World} {l z b : Nat} {B : List Int} {ET : TypeId} {EA : Addr} {p s : Int} {tg : Bool} {tl : Int} {th : Int} {al : Int} {ah : Int} (h : Xl w l z b B ET EA p s tg tl th al ah) (q : Bool) : Xl (w.setCell ⟨l, 2, none⟩ (.bool q)) l z b B ET EA p s q tl th al ah := by
  obtain ⟨A1, n1, c1, A2, n2, c2, hb, h1, h2⟩ := h.lex
  have hb' := heap_set_same (i := 2) (.bool q) hb
  exact ⟨h.inp.fr2 ((Fr.refl l z w).setl 2 _) h.lb h.l0 fun c hz => (heap_set_other _ h.lz).trans hz, ⟨A1, n1, c1, A2, n2, c2, by simpa using hb', h1, h2⟩, h.lz, h.lb, h.l0⟩
theorem Xl.setText {w : World} {l z b : Nat} {B : List Int} {ET : TypeId} {EA : Addr} {p s : Int} {tg : Bool} {tl : Int} {th : Int} {al : Int} {ah : Int} (h : Xl w l z b B ET EA p s tg tl th al ah) (lo hi : Int) (A : Option Addr) (n c : Nat) (hS : Sv b B lo hi A n c) : Xl (w.setCell ⟨l, 3, none⟩ (.slice A n c)) l z b B ET EA p s tg lo hi al ah := by
  obtain ⟨A1, n1, c1, A2, n2, c2, hb, h1, h2⟩ := h.lex
  have hb' := heap_set_same (i := 3) (.slice A n c) hb
  exact ⟨h.inp.fr2 ((Fr.refl l z w).setl 3 _) h.lb h.l0 fun c hz => (heap_set_other _ h.lz).trans hz, ⟨A, n, c, A2, n2, c2, by simpa using hb', hS, h2⟩, h.lz, h.lb, h.l0⟩
theorem Xl.setAttr {w : World} {l z b : Nat} {B : List Int} {ET : TypeId} {EA : Addr} {p s : Int} {tg : Bool} {tl : Int} {th : Int} {al : Int} {ah : Int} (h : Xl w l z b B ET EA p s tg tl th al ah) (lo hi : Int) (A : Option Addr) (n c : Nat) (hS : Sv b B lo hi A n c) : Xl (w.setCell ⟨l, 4, none⟩ (.slice A n c)) l z b B ET EA p s tg tl th lo hi := by
  obtain ⟨A1, n1, c1, A2, n2, c2, hb, h1, h2⟩ := h.lex
  have hb' := heap_set_same (i := 4) (.slice A n c) hb
  exact ⟨h.inp.fr2 ((Fr.refl l z w).setl 4 _) h.lb h.l0 fun c hz => (heap_set_other _ h.lz).trans hz, ⟨A1, n1, c1, A, n, c, by simpa using hb', h1, hS⟩, h.lz, h.lb, h.l0⟩
theorem Xl.Peek_calls {w : World} {l z b : Nat} {B : List Int} {ET : TypeId} {EA : Addr} {p s : Int} {tg : Bool} {tl : Int} {th : Int} {al : Int} {ah : Int} (h : Xl w l z b B ET EA p s tg tl th al ah) (n c : Int) (hc : Hd (pk B p n = some c)) :
    Calls Tryz.prog 55 #[.pointer (some ⟨z, 0, none⟩), .int .i64 n] w fun e w' => e = .returned (.int .u8 c) ∧ w = w' := _root_.Go.Proofs.YtfcedenofbefcaaGreatDoor.Peek_calls h.inp n c hc
theorem Xl.Move_calls {w : World} {l z b : Nat} {B : List Int} {ET : TypeId} {EA : Addr} {p s : Int} {tg : Bool} {tl : Int} {th : Int} {al : Int} {ah : Int} (h : Xl w l z b B ET EA p s tg tl th al ah) (n : Int) :
    Calls Tryz.prog 56 #[.pointer (some ⟨z, 0, none⟩), .int .i64 n] w fun e w' => e = .returned (.tuple #[]) ∧ Xl w' l z b B ET EA (mv p n) s tg tl th al ah ∧ Fr l z w w' :=
  (_root_.Go.Proofs.YtfcedenofbefcaaGreatDoor.Move_calls h.inp n).mono fun e w' ⟨h1, h2, h3⟩ => ⟨h1, h.lift h2 h3, h3.wide l⟩
theorem Xl.Rewind_calls {w : World} {l z b : Nat} {B : List Int} {ET : TypeId} {EA : Addr} {p s : Int} {tg : Bool} {tl : Int} {th : Int} {al : Int} {ah : Int} (h : Xl w l z b B ET EA p s tg tl th al ah) (m : Int) :
    Calls Tryz.prog 89 #[.pointer (some ⟨z, 0, none⟩), .int .i64 m] w fun e w' => e = .returned (.tuple #[]) ∧ Xl w' l z b B ET EA (rwd s m) s tg tl th al ah ∧ Fr l z w w' :=
  (_root_.Go.Proofs.YtfcedenofbefcaaGreatDoor.Rewind_calls h.inp m).mono fun e w' ⟨h1, h2, h3⟩ => ⟨h1, h.lift h2 h3, h3.wide l⟩
theorem Xl.Pos_calls {w : World} {l z b : Nat} {B : List Int} {ET : TypeId} {EA : Addr} {p s : Int} {tg : Bool} {tl : Int} {th : Int} {al : Int} {ah : Int} (h : Xl w l z b B ET EA p s tg tl th al ah) :
    Calls Tryz.prog 62 #[.pointer (some ⟨z, 0, none⟩)] w fun e w' => e = .returned (.int .i64 (ps p s)) ∧ Xl w' l z b B ET EA p s tg tl th al ah ∧ Fr l z w w' :=
  (_root_.Go.Proofs.YtfcedenofbefcaaGreatDoor.Pos_calls h.inp).mono fun e w' ⟨h1, h2, h3⟩ => ⟨h1, h.lift h2 h3, h3.wide l⟩
theorem Xl.Skip_calls {w : World} {l z b : Nat} {B : List Int} {ET : TypeId} {EA : Addr} {p s : Int} {tg : Bool} {tl : Int} {th : Int} {al : Int} {ah : Int} (h : Xl w l z b B ET EA p s tg tl th al ah) :
    Calls Tryz.prog 60 #[.pointer (some ⟨z, 0, none⟩)] w fun e w' => e = .returned (.tuple #[]) ∧ Xl w' l z b B ET EA p p tg tl th al ah ∧ Fr l z w w' :=
  (_root_.Go.Proofs.YtfcedenofbefcaaGreatDoor.Skip_calls h.inp).mono fun e w' ⟨h1, h2, h3⟩ => ⟨h1, h.lift h2 h3, h3.wide l⟩
theorem Xl.Err_end_calls {w : World} {l z b : Nat} {B : List Int} {ET : TypeId} {EA : Addr} {p s : Int} {tg : Bool} {tl : Int} {th : Int} {al : Int} {ah : Int} (h : Xl w l z b B ET EA p s tg tl th al ah) (hn : atEnd B p 0 = true) :
    Calls Tryz.prog 57 #[.pointer (some ⟨z, 0, none⟩)] w fun e w' => e = .returned (.iface ET (.pointer (some EA))) ∧ Xl w' l z b B ET EA p s tg tl th al ah ∧ Fr l z w w' :=
  (_root_.Go.Proofs.YtfcedenofbefcaaGreatDoor.Err_end h.inp hn).mono fun e w' ⟨h1, h2, h3⟩ => ⟨h1, h.lift h2 h3, h3.wide l⟩
theorem Xl.Err_not_calls {w : World} {l z b : Nat} {B : List Int} {ET : TypeId} {EA : Addr} {p s : Int} {tg : Bool} {tl : Int} {th : Int} {al : Int} {ah : Int} (h : Xl w l z b B ET EA p s tg tl th al ah) (hn : atEnd B p 0 = false) :
    Calls Tryz.prog 57 #[.pointer (some ⟨z, 0, none⟩)] w fun e w' => e = .returned (.nilIface) ∧ Xl w' l z b B ET EA p s tg tl th al ah ∧ Fr l z w w' :=
  (_root_.Go.Proofs.YtfcedenofbefcaaGreatDoor.Err_not h.inp hn).mono fun e w' ⟨h1, h2, h3⟩ => ⟨h1, h.lift h2 h3, h3.wide l⟩
theorem Xl.PeekErr_end_calls {w : World} {l z b : Nat} {B : List Int} {ET : TypeId} {EA : Addr} {p s : Int} {tg : Bool} {tl : Int} {th : Int} {al : Int} {ah : Int} (h : Xl w l z b B ET EA p s tg tl th al ah) (n : Int) (hn : atEnd B p n = true) :
    Calls Tryz.prog 74 #[.pointer (some ⟨z, 0, none⟩), .int .i64 n] w fun e w' => e = .returned (.iface ET (.pointer (some EA))) ∧ Xl w' l z b B ET EA p s tg tl th al ah ∧ Fr l z w w' :=
  (_root_.Go.Proofs.YtfcedenofbefcaaGreatDoor.PeekErr_end h.inp n hn).mono fun e w' ⟨h1, h2, h3⟩ => ⟨h1, h.lift h2 h3, h3.wide l⟩
theorem Xl.PeekErr_not_calls {w : World} {l z b : Nat} {B : List Int} {ET : TypeId} {EA : Addr} {p s : Int} {tg : Bool} {tl : Int} {th : Int} {al : Int} {ah : Int} (h : Xl w l z b B ET EA p s tg tl th al ah) (n : Int) (hn : atEnd B p n = false) :
    Calls Tryz.prog 74 #[.pointer (some ⟨z, 0, none⟩), .int .i64 n] w fun e w' => e = .returned (.nilIface) ∧ Xl w' l z b B ET EA p s tg tl th al ah ∧ Fr l z w w' :=
  (_root_.Go.Proofs.YtfcedenofbefcaaGreatDoor.PeekErr_not h.inp n hn).mono fun e w' ⟨h1, h2, h3⟩ => ⟨h1, h.lift h2 h3, h3.wide l⟩
theorem Xl.Lexeme_calls {w : World} {l z b : Nat} {B : List Int} {ET : TypeId} {EA : Addr} {p s : Int} {tg : Bool} {tl : Int} {th : Int} {al : Int} {ah : Int} (h : Xl w l z b B ET EA p s tg tl th al ah) (u : Unit) (hu : Hd (sel B p s = some u)) :
    Calls Tryz.prog 88 #[.pointer (some ⟨z, 0, none⟩)] w fun e w' => e = .returned (slv b s p) ∧ Xl w' l z b B ET EA p s tg tl th al ah ∧ Fr l z w w' :=
  (_root_.Go.Proofs.YtfcedenofbefcaaGreatDoor.Lexeme_calls h.inp u hu).mono fun e w' ⟨h1, h2, h3⟩ => ⟨h1, h.lift h2 h3, h3.wide l⟩
theorem Xl.Shift_calls {w : World} {l z b : Nat} {B : List Int} {ET : TypeId} {EA : Addr} {p s : Int} {tg : Bool} {tl : Int} {th : Int} {al : Int} {ah : Int} (h : Xl w l z b B ET EA p s tg tl th al ah) (u : Unit) (hu : Hd (sel B p s = some u)) :
    Calls Tryz.prog 61 #[.pointer (some ⟨z, 0, none⟩)] w fun e w' => e = .returned (slv b s p) ∧ Xl w' l z b B ET EA p p tg tl th al ah ∧ Fr l z w w' :=
  (_root_.Go.Proofs.YtfcedenofbefcaaGreatDoor.Shift_calls h.inp u hu).mono fun e w' ⟨h1, h2, h3⟩ => ⟨h1, h.lift h2 h3, h3.wide l⟩
end Go.Proofs.YtfcedenofbefcaaGreatDoor
