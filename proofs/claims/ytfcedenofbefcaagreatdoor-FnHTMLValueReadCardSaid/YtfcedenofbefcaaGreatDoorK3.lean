import Derived.Test.YtfcedenofbefcaaGreatDoorK1
namespace Go.Proofs.YtfcedenofbefcaaGreatDoor
open Go.RowKit
set_option linter.unusedVariables false
set_option linter.unusedSimpArgs false
def htab : List Int := [0, 0, 2566, 3845, 5125, 1540, 6, 0, 7171, 9736, 0, 0, 7939, 0, 8457, 6403]
/-- The table of the numbers of names lies as the program lays it. -/
structure HTab (w : World) : Prop where
  cells : ∀ i, i < 16 → w.cell? ⟨2, i, none⟩ = some (.int .u32 (htab.getD i 0))
theorem HTab.of_block {w w' : World} (h : HTab w) (hb : 2 < w.heap.size → w'.heap[2]? = w.heap[2]?) : HTab w' :=
  ⟨fun i hi => (World.cell?_of_block (w := w) (hb (World.block_lt_of_cell? _ _ (h.cells i hi)))).trans (h.cells i hi)⟩
/-- The lexer at l over the input at z. -/
structure Hl (w : World) (l z b : Nat) (B : List Int) (ET : TypeId) (EA : Addr) (p s : Int) (rt : Int) (tg : Bool) (tl : Int) (th : Int) (al : Int) (ah : Int) : Prop where
  inp : In w z b B ET EA p s
  lex : ∃ (A1 : Option Addr) (n1 c1 : Nat) (A2 : Option Addr) (n2 c2 : Nat), w.heap[l]? = some (.cells #[.pointer (some ⟨z, 0, none⟩), .slice none 0 0, .slice none 0 0, .nilIface, .int .u32 rt, .bool tg, .slice A1 n1 c1, .slice A2 n2 c2, .bool false] 93 (0, 0)) ∧ Sv b B tl th A1 n1 c1 ∧ Sv b B al ah A2 n2 c2
  lz : l ≠ z
  lb : l ≠ b
  l0 : l ≠ 0
  tab : HTab w
  l2 : l ≠ 2
  z2 : z ≠ 2
theorem Hl.lift {w w' : World} {l z b : Nat} {B : List Int} {ET : TypeId} {EA : Addr} {p s : Int} {rt : Int} {tg : Bool} {tl : Int} {th : Int} {al : Int} {ah : Int} {p' s' : Int} (h : Hl w l z b B ET EA p s rt tg tl th al ah) (hI : In w' z b B ET EA p' s') (k : Fr z z w w') : Hl w' l z b B ET EA p' s' rt tg tl th al ah := by
  obtain ⟨A1, n1, c1, A2, n2, c2, hb, h1, h2⟩ := h.lex
  exact ⟨hI, ⟨A1, n1, c1, A2, n2, c2, (k.block l (lt_of_heap hb) h.lz h.lz).trans hb, h1, h2⟩, h.lz, h.lb, h.l0, h.tab.of_block fun hl => k.block 2 hl h.z2.symm h.z2.symm, h.l2, h.z2⟩
theorem Hl.drewN {w : World} {l z b : Nat} {B : List Int} {ET : TypeId} {EA : Addr} {p s : Int} {rt : Int} {tg : Bool} {tl : Int} {th : Int} {al : Int} {ah : Int} (h : Hl w l z b B ET EA p s rt tg tl th al ah) (n : Nat) : Hl (w.drewN n) l z b B ET EA p s rt tg tl th al ah := h.lift (h.inp.drewN n) ((Fr.refl z z w).drewN n)
theorem Hl.drew {w : World} {l z b : Nat} {B : List Int} {ET : TypeId} {EA : Addr} {p s : Int} {rt : Int} {tg : Bool} {tl : Int} {th : Int} {al : Int} {ah : Int} (h : Hl w l z b B ET EA p s rt tg tl th al ah) : Hl w.drew l z b B ET EA p s rt tg tl th al ah := h.lift h.inp.drew (Fr.refl z z w).drew
theorem Hl.alloc {w : World} {l z b : Nat} {B : List Int} {ET : TypeId} {EA : Addr} {p s : Int} {rt : Int} {tg : Bool} {tl : Int} {th : Int} {al : Int} {ah : Int} (h : Hl w l z b B ET EA p s rt tg tl th al ah) (o : Obj) : Hl (w.alloc o) l z b B ET EA p s rt tg tl th al ah := h.lift (h.inp.alloc o) ((Fr.refl z z w).alloc o)
theorem Hl.below {w w' : World} {l z b : Nat} {B : List Int} {ET : TypeId} {EA : Addr} {p s : Int} {rt : Int} {tg : Bool} {tl : Int} {th : Int} {al : Int} {ah : Int} (h : Hl w l z b B ET EA p s rt tg tl th al ah) (k : Below w.heap.size w w') : Hl w' l z b B ET EA p s rt tg tl th al ah := by
  obtain ⟨c, hc, hi⟩ := h.inp.inp
  exact h.lift (h.inp.fr (Fr.below k) fun c hz => (k.block z (lt_of_heap hz)).trans hz) (Fr.below k)
theorem Hl.c0 {w : World} {l z b : Nat} {B : List Int} {ET : TypeId} {EA : Addr} {p s : Int} {rt : Int} {tg : Bool} {tl : Int} {th : Int} {al : Int} {ah : Int} (h : Hl w l z b B ET EA p s rt tg tl th al ah) : w.cell? ⟨l, 0, none⟩ = some (.pointer (some ⟨z, 0, none⟩)) := by
  obtain ⟨A1, n1, c1, A2, n2, c2, hb, h1, h2⟩ := h.lex
  exact (cell_of_block hb 0).trans rfl
theorem Hl.c1 {w : World} {l z b : Nat} {B : List Int} {ET : TypeId} {EA : Addr} {p s : Int} {rt : Int} {tg : Bool} {tl : Int} {th : Int} {al : Int} {ah : Int} (h : Hl w l z b B ET EA p s rt tg tl th al ah) : w.cell? ⟨l, 1, none⟩ = some (.slice none 0 0) := by
  obtain ⟨A1, n1, c1, A2, n2, c2, hb, h1, h2⟩ := h.lex
  exact (cell_of_block hb 1).trans rfl
theorem Hl.c2 {w : World} {l z b : Nat} {B : List Int} {ET : TypeId} {EA : Addr} {p s : Int} {rt : Int} {tg : Bool} {tl : Int} {th : Int} {al : Int} {ah : Int} (h : Hl w l z b B ET EA p s rt tg tl th al ah) : w.cell? ⟨l, 2, none⟩ = some (.slice none 0 0) := by
  obtain ⟨A1, n1, c1, A2, n2, c2, hb, h1, h2⟩ := h.lex
  exact (cell_of_block hb 2).trans rfl
theorem Hl.c3 {w : World} {l z b : Nat} {B : List Int} {ET : TypeId} {EA : Addr} {p s : Int} {rt : Int} {tg : Bool} {tl : Int} {th : Int} {al : Int} {ah : Int} (h : Hl w l z b B ET EA p s rt tg tl th al ah) : w.cell? ⟨l, 3, none⟩ = some (.nilIface) := by
  obtain ⟨A1, n1, c1, A2, n2, c2, hb, h1, h2⟩ := h.lex
  exact (cell_of_block hb 3).trans rfl
theorem Hl.c4 {w : World} {l z b : Nat} {B : List Int} {ET : TypeId} {EA : Addr} {p s : Int} {rt : Int} {tg : Bool} {tl : Int} {th : Int} {al : Int} {ah : Int} (h : Hl w l z b B ET EA p s rt tg tl th al ah) : w.cell? ⟨l, 4, none⟩ = some (.int .u32 rt) := by
  obtain ⟨A1, n1, c1, A2, n2, c2, hb, h1, h2⟩ := h.lex
  exact (cell_of_block hb 4).trans rfl
theorem Hl.c5 {w : World} {l z b : Nat} {B : List Int} {ET : TypeId} {EA : Addr} {p s : Int} {rt : Int} {tg : Bool} {tl : Int} {th : Int} {al : Int} {ah : Int} (h : Hl w l z b B ET EA p s rt tg tl th al ah) : w.cell? ⟨l, 5, none⟩ = some (.bool tg) := by
  obtain ⟨A1, n1, c1, A2, n2, c2, hb, h1, h2⟩ := h.lex
  exact (cell_of_block hb 5).trans rfl
theorem Hl.c8 {w : World} {l z b : Nat} {B : List Int} {ET : TypeId} {EA : Addr} {p s : Int} {rt : Int} {tg : Bool} {tl : Int} {th : Int} {al : Int} {ah : Int} (h : Hl w l z b B ET EA p s rt tg tl th al ah) : w.cell? ⟨l, 8, none⟩ = some (.bool false) := by
  obtain ⟨A1, n1, c1, A2, n2, c2, hb, h1, h2⟩ := h.lex
  exact (cell_of_block hb 8).trans rfl
theorem Hl.ct {w : World} {l z b : Nat} {B : List Int} {ET : TypeId} {EA : Addr} {p s : Int} {rt : Int} {tg : Bool} {tl : Int} {th : Int} {al : Int} {ah : Int} (h : Hl w l z b B ET EA p s rt tg tl th al ah) : ∃ (A : Option Addr) (n c : Nat), w.cell? ⟨l, 6, none⟩ = some (.slice A n c) ∧ Sv b B tl th A n c := by
  obtain ⟨A1, n1, c1, A2, n2, c2, hb, h1, h2⟩ := h.lex
  exact ⟨_, _, _, (cell_of_block hb 6).trans rfl, h1⟩
theorem Hl.ca {w : World} {l z b : Nat} {B : List Int} {ET : TypeId} {EA : Addr} {p s : Int} {rt : Int} {tg : Bool} {tl : Int} {th : Int} {al : Int} {ah : Int} (h : Hl w l z b B ET EA p s rt tg tl th al ah) : ∃ (A : Option Addr) (n c : Nat), w.cell? ⟨l, 7, none⟩ = some (.slice A n c) ∧ Sv b B al ah A n c := by
  obtain ⟨A1, n1, c1, A2, n2, c2, hb, h1, h2⟩ := h.lex
  exact ⟨_, _, _, (cell_of_block hb 7).trans rfl, h2⟩
theorem Hl.f {w : World} {l z b : Nat} {B : List Int} {ET : TypeId} {EA : Addr} {p s : Int} {rt : Int} {tg : Bool} {tl : Int} {th : Int} {al : Int} {ah : Int} (h : Hl w l z b B ET EA p s rt tg tl th al ah) (j : Nat) : w.frozen? ⟨l, j, none⟩ = false := by
  obtain ⟨A1, n1, c1, A2, n2, c2, hb, h1, h2⟩ := h.lex
  exact frozen_of_block hb j
theorem Hl.setTag {w : World} {l z b : Nat} {B : List Int} {ET : TypeId} {EA : Addr} {p s : Int} {rt : Int} {tg : Bool} {tl : Int} {th : Int} {al : Int} {ah : Int} (h : Hl w l z b B ET EA p s rt tg tl th al ah) (q : Bool) : Hl (w.setCell ⟨l, 5, none⟩ (.bool q)) l z b B ET EA p s rt q tl th al ah := by
  obtain ⟨A1, n1, c1, A2, n2, c2, hb, h1, h2⟩ := h.lex
  have hb' := heap_set_same (i := 5) (.bool q) hb
  exact ⟨h.inp.fr2 ((Fr.refl l z w).setl 5 _) h.lb h.l0 fun c hz => (heap_set_other _ h.lz).trans hz, ⟨A1, n1, c1, A2, n2, c2, by simpa using hb', h1, h2⟩, h.lz, h.lb, h.l0, h.tab.of_block fun hl => ((Fr.refl l z w).setl _ _).block 2 hl h.l2.symm h.z2.symm, h.l2, h.z2⟩
theorem Hl.setText {w : World} {l z b : Nat} {B : List Int} {ET : TypeId} {EA : Addr} {p s : Int} {rt : Int} {tg : Bool} {tl : Int} {th : Int} {al : Int} {ah : Int} (h : Hl w l z b B ET EA p s rt tg tl th al ah) (lo hi : Int) (A : Option Addr) (n c : Nat) (hS : Sv b B lo hi A n c) : Hl (w.setCell ⟨l, 6, none⟩ (.slice A n c)) l z b B ET EA p s rt tg lo hi al ah := by
  obtain ⟨A1, n1, c1, A2, n2, c2, hb, h1, h2⟩ := h.lex
  have hb' := heap_set_same (i := 6) (.slice A n c) hb
  exact ⟨h.inp.fr2 ((Fr.refl l z w).setl 6 _) h.lb h.l0 fun c hz => (heap_set_other _ h.lz).trans hz, ⟨A, n, c, A2, n2, c2, by simpa using hb', hS, h2⟩, h.lz, h.lb, h.l0, h.tab.of_block fun hl => ((Fr.refl l z w).setl _ _).block 2 hl h.l2.symm h.z2.symm, h.l2, h.z2⟩
theorem Hl.setAttr {w : World} {l z b : Nat} {B : List Int} {ET : TypeId} {EA : Addr} {p s : Int} {rt : Int} {tg : Bool} {tl : Int} {th : Int} {al : Int} {ah : Int} (h : Hl w l z b B ET EA p s rt tg tl th al ah) (lo hi : Int) (A : Option Addr) (n c : Nat) (hS : Sv b B lo hi A n c) : Hl (w.setCell ⟨l, 7, none⟩ (.slice A n c)) l z b B ET EA p s rt tg tl th lo hi := by
  obtain ⟨A1, n1, c1, A2, n2, c2, hb, h1, h2⟩ := h.lex
  have hb' := heap_set_same (i := 7) (.slice A n c) hb
  exact ⟨h.inp.fr2 ((Fr.refl l z w).setl 7 _) h.lb h.l0 fun c hz => (heap_set_other _ h.lz).trans hz, ⟨A1, n1, c1, A, n, c, by simpa using hb', h1, hS⟩, h.lz, h.lb, h.l0, h.tab.of_block fun hl => ((Fr.refl l z w).setl _ _).block 2 hl h.l2.symm h.z2.symm, h.l2, h.z2⟩
theorem Hl.setRaw {w : World} {l z b : Nat} {B : List Int} {ET : TypeId} {EA : Addr} {p s : Int} {rt : Int} {tg : Bool} {tl : Int} {th : Int} {al : Int} {ah : Int} (h : Hl w l z b B ET EA p s rt tg tl th al ah) (q : Int) : Hl (w.setCell ⟨l, 4, none⟩ (.int .u32 q)) l z b B ET EA p s q tg tl th al ah := by
  obtain ⟨A1, n1, c1, A2, n2, c2, hb, h1, h2⟩ := h.lex
  have hb' := heap_set_same (i := 4) (.int .u32 q) hb
  exact ⟨h.inp.fr2 ((Fr.refl l z w).setl 4 _) h.lb h.l0 fun c hz => (heap_set_other _ h.lz).trans hz, ⟨A1, n1, c1, A2, n2, c2, by simpa using hb', h1, h2⟩, h.lz, h.lb, h.l0, h.tab.of_block fun hl => ((Fr.refl l z w).setl _ _).block 2 hl h.l2.symm h.z2.symm, h.l2, h.z2⟩
theorem Hl.setTmpl {w : World} {l z b : Nat} {B : List Int} {ET : TypeId} {EA : Addr} {p s : Int} {rt : Int} {tg : Bool} {tl : Int} {th : Int} {al : Int} {ah : Int} (h : Hl w l z b B ET EA p s rt tg tl th al ah)  : Hl (w.setCell ⟨l, 8, none⟩ (.bool false)) l z b B ET EA p s rt tg tl th al ah := by
  obtain ⟨A1, n1, c1, A2, n2, c2, hb, h1, h2⟩ := h.lex
  have hb' := heap_set_same (i := 8) (.bool false) hb
  exact ⟨h.inp.fr2 ((Fr.refl l z w).setl 8 _) h.lb h.l0 fun c hz => (heap_set_other _ h.lz).trans hz, ⟨A1, n1, c1, A2, n2, c2, by simpa using hb', h1, h2⟩, h.lz, h.lb, h.l0, h.tab.of_block fun hl => ((Fr.refl l z w).setl _ _).block 2 hl h.l2.symm h.z2.symm, h.l2, h.z2⟩
theorem Hl.Peek_calls {w : World} {l z b : Nat} {B : List Int} {ET : TypeId} {EA : Addr} {p s : Int} {rt : Int} {tg : Bool} {tl : Int} {th : Int} {al : Int} {ah : Int} (h : Hl w l z b B ET EA p s rt tg tl th al ah) (n c : Int) (hc : Hd (pk B p n = some c)) :
    Calls Tryz.prog 55 #[.pointer (some ⟨z, 0, none⟩), .int .i64 n] w fun e w' => e = .returned (.int .u8 c) ∧ w = w' := _root_.Go.Proofs.YtfcedenofbefcaaGreatDoor.Peek_calls h.inp n c hc
theorem Hl.Move_calls {w : World} {l z b : Nat} {B : List Int} {ET : TypeId} {EA : Addr} {p s : Int} {rt : Int} {tg : Bool} {tl : Int} {th : Int} {al : Int} {ah : Int} (h : Hl w l z b B ET EA p s rt tg tl th al ah) (n : Int) :
    Calls Tryz.prog 56 #[.pointer (some ⟨z, 0, none⟩), .int .i64 n] w fun e w' => e = .returned (.tuple #[]) ∧ Hl w' l z b B ET EA (mv p n) s rt tg tl th al ah ∧ Fr l z w w' :=
  (_root_.Go.Proofs.YtfcedenofbefcaaGreatDoor.Move_calls h.inp n).mono fun e w' ⟨h1, h2, h3⟩ => ⟨h1, h.lift h2 h3, h3.wide l⟩
theorem Hl.Rewind_calls {w : World} {l z b : Nat} {B : List Int} {ET : TypeId} {EA : Addr} {p s : Int} {rt : Int} {tg : Bool} {tl : Int} {th : Int} {al : Int} {ah : Int} (h : Hl w l z b B ET EA p s rt tg tl th al ah) (m : Int) :
    Calls Tryz.prog 89 #[.pointer (some ⟨z, 0, none⟩), .int .i64 m] w fun e w' => e = .returned (.tuple #[]) ∧ Hl w' l z b B ET EA (rwd s m) s rt tg tl th al ah ∧ Fr l z w w' :=
  (_root_.Go.Proofs.YtfcedenofbefcaaGreatDoor.Rewind_calls h.inp m).mono fun e w' ⟨h1, h2, h3⟩ => ⟨h1, h.lift h2 h3, h3.wide l⟩
theorem Hl.Pos_calls {w : World} {l z b : Nat} {B : List Int} {ET : TypeId} {EA : Addr} {p s : Int} {rt : Int} {tg : Bool} {tl : Int} {th : Int} {al : Int} {ah : Int} (h : Hl w l z b B ET EA p s rt tg tl th al ah) :
    Calls Tryz.prog 62 #[.pointer (some ⟨z, 0, none⟩)] w fun e w' => e = .returned (.int .i64 (ps p s)) ∧ Hl w' l z b B ET EA p s rt tg tl th al ah ∧ Fr l z w w' :=
  (_root_.Go.Proofs.YtfcedenofbefcaaGreatDoor.Pos_calls h.inp).mono fun e w' ⟨h1, h2, h3⟩ => ⟨h1, h.lift h2 h3, h3.wide l⟩
theorem Hl.Skip_calls {w : World} {l z b : Nat} {B : List Int} {ET : TypeId} {EA : Addr} {p s : Int} {rt : Int} {tg : Bool} {tl : Int} {th : Int} {al : Int} {ah : Int} (h : Hl w l z b B ET EA p s rt tg tl th al ah) :
    Calls Tryz.prog 60 #[.pointer (some ⟨z, 0, none⟩)] w fun e w' => e = .returned (.tuple #[]) ∧ Hl w' l z b B ET EA p p rt tg tl th al ah ∧ Fr l z w w' :=
  (_root_.Go.Proofs.YtfcedenofbefcaaGreatDoor.Skip_calls h.inp).mono fun e w' ⟨h1, h2, h3⟩ => ⟨h1, h.lift h2 h3, h3.wide l⟩
theorem Hl.Err_end_calls {w : World} {l z b : Nat} {B : List Int} {ET : TypeId} {EA : Addr} {p s : Int} {rt : Int} {tg : Bool} {tl : Int} {th : Int} {al : Int} {ah : Int} (h : Hl w l z b B ET EA p s rt tg tl th al ah) (hn : atEnd B p 0 = true) :
    Calls Tryz.prog 57 #[.pointer (some ⟨z, 0, none⟩)] w fun e w' => e = .returned (.iface ET (.pointer (some EA))) ∧ Hl w' l z b B ET EA p s rt tg tl th al ah ∧ Fr l z w w' :=
  (_root_.Go.Proofs.YtfcedenofbefcaaGreatDoor.Err_end h.inp hn).mono fun e w' ⟨h1, h2, h3⟩ => ⟨h1, h.lift h2 h3, h3.wide l⟩
theorem Hl.Err_not_calls {w : World} {l z b : Nat} {B : List Int} {ET : TypeId} {EA : Addr} {p s : Int} {rt : Int} {tg : Bool} {tl : Int} {th : Int} {al : Int} {ah : Int} (h : Hl w l z b B ET EA p s rt tg tl th al ah) (hn : atEnd B p 0 = false) :
    Calls Tryz.prog 57 #[.pointer (some ⟨z, 0, none⟩)] w fun e w' => e = .returned (.nilIface) ∧ Hl w' l z b B ET EA p s rt tg tl th al ah ∧ Fr l z w w' :=
  (_root_.Go.Proofs.YtfcedenofbefcaaGreatDoor.Err_not h.inp hn).mono fun e w' ⟨h1, h2, h3⟩ => ⟨h1, h.lift h2 h3, h3.wide l⟩
theorem Hl.PeekErr_end_calls {w : World} {l z b : Nat} {B : List Int} {ET : TypeId} {EA : Addr} {p s : Int} {rt : Int} {tg : Bool} {tl : Int} {th : Int} {al : Int} {ah : Int} (h : Hl w l z b B ET EA p s rt tg tl th al ah) (n : Int) (hn : atEnd B p n = true) :
    Calls Tryz.prog 74 #[.pointer (some ⟨z, 0, none⟩), .int .i64 n] w fun e w' => e = .returned (.iface ET (.pointer (some EA))) ∧ Hl w' l z b B ET EA p s rt tg tl th al ah ∧ Fr l z w w' :=
  (_root_.Go.Proofs.YtfcedenofbefcaaGreatDoor.PeekErr_end h.inp n hn).mono fun e w' ⟨h1, h2, h3⟩ => ⟨h1, h.lift h2 h3, h3.wide l⟩
theorem Hl.PeekErr_not_calls {w : World} {l z b : Nat} {B : List Int} {ET : TypeId} {EA : Addr} {p s : Int} {rt : Int} {tg : Bool} {tl : Int} {th : Int} {al : Int} {ah : Int} (h : Hl w l z b B ET EA p s rt tg tl th al ah) (n : Int) (hn : atEnd B p n = false) :
    Calls Tryz.prog 74 #[.pointer (some ⟨z, 0, none⟩), .int .i64 n] w fun e w' => e = .returned (.nilIface) ∧ Hl w' l z b B ET EA p s rt tg tl th al ah ∧ Fr l z w w' :=
  (_root_.Go.Proofs.YtfcedenofbefcaaGreatDoor.PeekErr_not h.inp n hn).mono fun e w' ⟨h1, h2, h3⟩ => ⟨h1, h.lift h2 h3, h3.wide l⟩
theorem Hl.Lexeme_calls {w : World} {l z b : Nat} {B : List Int} {ET : TypeId} {EA : Addr} {p s : Int} {rt : Int} {tg : Bool} {tl : Int} {th : Int} {al : Int} {ah : Int} (h : Hl w l z b B ET EA p s rt tg tl th al ah) (u : Unit) (hu : Hd (sel B p s = some u)) :
    Calls Tryz.prog 88 #[.pointer (some ⟨z, 0, none⟩)] w fun e w' => e = .returned (slv b s p) ∧ Hl w' l z b B ET EA p s rt tg tl th al ah ∧ Fr l z w w' :=
  (_root_.Go.Proofs.YtfcedenofbefcaaGreatDoor.Lexeme_calls h.inp u hu).mono fun e w' ⟨h1, h2, h3⟩ => ⟨h1, h.lift h2 h3, h3.wide l⟩
theorem Hl.Shift_calls {w : World} {l z b : Nat} {B : List Int} {ET : TypeId} {EA : Addr} {p s : Int} {rt : Int} {tg : Bool} {tl : Int} {th : Int} {al : Int} {ah : Int} (h : Hl w l z b B ET EA p s rt tg tl th al ah) (u : Unit) (hu : Hd (sel B p s = some u)) :
    Calls Tryz.prog 61 #[.pointer (some ⟨z, 0, none⟩)] w fun e w' => e = .returned (slv b s p) ∧ Hl w' l z b B ET EA p p rt tg tl th al ah ∧ Fr l z w w' :=
  (_root_.Go.Proofs.YtfcedenofbefcaaGreatDoor.Shift_calls h.inp u hu).mono fun e w' ⟨h1, h2, h3⟩ => ⟨h1, h.lift h2 h3, h3.wide l⟩
end Go.Proofs.YtfcedenofbefcaaGreatDoor
