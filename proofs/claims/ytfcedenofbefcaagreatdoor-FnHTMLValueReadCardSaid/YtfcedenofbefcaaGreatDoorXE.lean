import Derived.Test.YtfcedenofbefcaaGreatDoorP0
import Derived.LaidEql
namespace Go.Proofs.YtfcedenofbefcaaGreatDoor
open Go.RowKit
set_option linter.unusedVariables false
set_option linter.unusedSimpArgs false
/-! The lexer of XML made; its error; the names of its kinds. -/
/-- The error at the end, or none. -/
def errv (r : Bool) (ET : TypeId) (EA : Addr) : Value := match r with | true => .iface ET (.pointer (some EA)) | false => .nilIface
theorem PeekErr_quiet {w : World} {z b : Nat} {B : List Int} {ET : TypeId} {EA : Addr} {p s : Int} (h : In w z b B ET EA p s) (n : Int) (r : Bool) (hn : atEnd B p n = r) :
    Calls Tryz.prog 74 #[.pointer (some ⟨z, 0, none⟩), .int .i64 n] w fun e w' => e = .returned (errv r ET EA) ∧ ∃ m, w' = w.drewN m := by
  obtain ⟨cp, hcp, hz⟩ := h.inp
  have h0 := (cell_of_block hz 0).trans rfl
  have h1 := (cell_of_block hz 1).trans rfl
  have h3 := (cell_of_block hz 3).trans rfl
  have h00 := h.eof
  unfold atEnd at hn
  clear hz
  cases r with
  | true =>
    go_enter Tryz.func74, Tryz.ntmps74
    go_wp2
    go_quiet (fail)
    go_wp2
    go_ret
    exact ⟨rfl, _, rfl⟩
  | false =>
    go_enter Tryz.func74, Tryz.ntmps74
    go_wp2
    go_quiet (fail)
    go_wp2
    go_ret
    exact ⟨rfl, _, rfl⟩
theorem Err_quiet {w : World} {z b : Nat} {B : List Int} {ET : TypeId} {EA : Addr} {p s : Int} (h : In w z b B ET EA p s) (r : Bool) (hn : atEnd B p 0 = r) :
    Calls Tryz.prog 57 #[.pointer (some ⟨z, 0, none⟩)] w fun e w' => e = .returned (errv r ET EA) ∧ ∃ m, w' = w.drewN m := by
  have H := Hd.mk hn
  clear hn
  go_enter Tryz.func57, Tryz.ntmps57
  go_wp2_with fail
  refine (PeekErr_quiet h 0 r H.out).mono ?_
  rintro e w1 ⟨rfl, m, rfl⟩
  go_wp2_with fail
  go_ret
  exact ⟨rfl, m, rfl⟩
theorem XErr_quiet {w : World} {l z b : Nat} {B : List Int} {ET : TypeId} {EA : Addr} {p s : Int} {tg : Bool} {tl th al ah : Int} (h : Xl w l z b B ET EA p s tg tl th al ah) (r : Bool) (hn : atEnd B p 0 = r) :
    Calls Tryz.prog 29 #[.pointer (some ⟨l, 0, none⟩)] w fun e w' => e = .returned (errv r ET EA) ∧ ∃ m, w' = w.drewN m := by
  have H := Hd.mk hn
  have c0 := h.c0
  have c1 := h.c1
  clear hn
  go_enter Tryz.func29, Tryz.ntmps29
  go_wp2_with fail
  refine (Err_quiet h.inp r H.out).mono ?_
  rintro e w1 ⟨rfl, m, rfl⟩
  go_wp2_with fail
  go_ret
  exact ⟨rfl, m, rfl⟩
theorem XText_calls {w : World} {l z b : Nat} {B : List Int} {ET : TypeId} {EA : Addr} {p s : Int} {tg : Bool} {tl th al ah : Int} (h : Xl w l z b B ET EA p s tg tl th al ah) :
    Calls Tryz.prog 27 #[.pointer (some ⟨l, 0, none⟩)] w fun e w' => (∃ A n c, e = .returned (.slice A n c) ∧ Sv b B tl th A n c) ∧ w = w' := by
  obtain ⟨A, n, c, hc, hS⟩ := h.ct
  go_enter Tryz.func27, Tryz.ntmps27
  go_wp2_with fail
  go_ret
  exact ⟨⟨A, n, c, rfl, hS⟩, rfl⟩
theorem XAttr_calls {w : World} {l z b : Nat} {B : List Int} {ET : TypeId} {EA : Addr} {p s : Int} {tg : Bool} {tl th al ah : Int} (h : Xl w l z b B ET EA p s tg tl th al ah) :
    Calls Tryz.prog 28 #[.pointer (some ⟨l, 0, none⟩)] w fun e w' => (∃ A n c, e = .returned (.slice A n c) ∧ Sv b B al ah A n c) ∧ w = w' := by
  obtain ⟨A, n, c, hc, hS⟩ := h.ca
  go_enter Tryz.func28, Tryz.ntmps28
  go_wp2_with fail
  go_ret
  exact ⟨⟨A, n, c, rfl, hS⟩, rfl⟩
theorem XNew_calls {w : World} {z : Nat} :
    Calls Tryz.prog 22 #[.pointer (some ⟨z, 0, none⟩)] w fun e w' => e = .returned (.pointer (some ⟨w.heap.size, 0, none⟩)) ∧ w.alloc (.cells #[.pointer (some ⟨z, 0, none⟩), .nilIface, .bool false, .slice none 0 0, .slice none 0 0] 81) = w' := by
  go_enter Tryz.func22, Tryz.ntmps22
  go_wp2
  go_ret
  exact ⟨rfl, rfl⟩
theorem lex_no5 {w : World} {l z b : Nat} {B : List Int} {ET : TypeId} {EA : Addr} {p s : Int} {tg : Bool} {tl th al ah : Int} (h : Xl w l z b B ET EA p s tg tl th al ah) : ∀ cs f, w.heap[l]? ≠ some (.cells cs 5 f) := by
  obtain ⟨_, _, _, _, _, _, hi, _, _⟩ := h.lex
  intro cs f e
  rw [hi] at e
  simp at e
theorem Xl.grown {w w' : World} {l z b : Nat} {B : List Int} {ET : TypeId} {EA : Addr} {p s : Int} {tg : Bool} {tl th al ah : Int} (h : Xl w l z b B ET EA p s tg tl th al ah) {row : Option Nat} (hg : w.grownBy w' row) (base : Nat) (hr : ∀ k, row = some k → base ≤ k) (hl : l < base) (hz : z < base) (hb : b < base) : Xl w' l z b B ET EA p s tg tl th al ah := by
  have hk : ∀ k, k < base → k < w.heap.size → w'.heap[k]? = w.heap[k]? := fun k h1 h2 => hg.block k h2 fun e => by have := hr k e.symm; omega
  obtain ⟨A1, n1, c1, A2, n2, c2, hi, h1, h2⟩ := h.lex
  exact ⟨h.inp.grown hg base hr hz hb, ⟨A1, n1, c1, A2, n2, c2, (hk l hl (lt_of_heap hi)).trans hi, h1, h2⟩, h.lz, h.lb, h.l0⟩
theorem Xl.setOther {w : World} {l z b g i : Nat} {B : List Int} {ET : TypeId} {EA : Addr} {p s : Int} {tg : Bool} {tl th al ah : Int} (h : Xl w l z b B ET EA p s tg tl th al ah) (hl : g ≠ l) (hz : g ≠ z) (hb : g ≠ b) (h0 : g ≠ 0) (u : Value) : Xl (w.setCell ⟨g, i, none⟩ u) l z b B ET EA p s tg tl th al ah := by
  obtain ⟨A1, n1, c1, A2, n2, c2, hi, h1, h2⟩ := h.lex
  exact ⟨h.inp.setOther hz hb h0 u, ⟨A1, n1, c1, A2, n2, c2, (heap_set_other u hl).trans hi, h1, h2⟩, h.lz, h.lb, h.l0⟩
/-- The lexer over the bytes T is made. -/
structure MadeX (T : List Int) (B0 : Nat) (w w' : World) (l z b : Nat) (ET : TypeId) (EA : Addr) : Prop where
  lx : Xl w' l z b (T ++ [0]) ET EA 0 0 false 0 0 0 0
  mem : Below B0 w w'
  hl : B0 ≤ l
  hz : B0 ≤ z
  hb : B0 ≤ b
theorem madeX {T : List Int} {B0 : Nat} {w w1 w2 : World} {ET : TypeId} {EA : Addr} (h0 : w.cell? ⟨0, 0, none⟩ = some (.iface ET (.pointer (some EA)))) (hB : B0 ≤ w.heap.size) (hB0 : 0 < B0) (hlen : T.length ≤ 140737488355000) (hm : Below B0 w w1) (hs : w.heap.size ≤ w1.heap.size) {e : Ending} (hn : NewPost T B0 w1 e w2) :
    ∃ z b, e = .returned (.pointer (some ⟨z, 0, none⟩)) ∧ MadeX T B0 w (w2.alloc (.cells #[.pointer (some ⟨z, 0, none⟩), .nilIface, .bool false, .slice none 0 0, .slice none 0 0] 81)) w2.heap.size z b ET EA := by
  obtain ⟨z, b, c, rfl, hz, hb, hbz, hc, hzs, hblk, hcell, hbel⟩ := hn
  have hzl := lt_of_heap hblk
  have h0' : w2.cell? ⟨0, 0, none⟩ = some (.iface ET (.pointer (some EA))) := (hbel.cell (p := ⟨0, 0, none⟩) hB0).trans ((hm.cell (p := ⟨0, 0, none⟩) hB0).trans h0)
  have hb0 := hcell 0 (by omega)
  have hbl : b < w2.heap.size := World.block_lt_of_cell? _ _ hb0
  have hbs := hbel.size
  refine ⟨z, b, rfl, ⟨⟨⟨⟨c, by simpa using hc, ?_⟩, fun i hi => ?_, by simp; omega, by simp, hbz, ?_, by omega⟩, ⟨none, 0, 0, none, 0, 0, heap_new _ _, Sv.nil _ _, Sv.nil _ _⟩, by omega, by omega, by omega⟩, ?_, by omega, hz, hb⟩⟩
  · rw [Below.heap_alloc _ _ _ hzl]
    simpa using hblk
  · rw [World.cell?_alloc_lt _ _ _ hbl]
    exact hcell i (by simpa using hi)
  · rw [World.cell?_alloc_lt _ _ _ (World.block_lt_of_cell? _ _ h0')]
    exact h0'
  · have := hm.trans hbel
    exact this.alloc (by omega) _
theorem MadeX.lt {T : List Int} {B0 : Nat} {w w' : World} {l z b : Nat} {ET : TypeId} {EA : Addr} (h : MadeX T B0 w w' l z b ET EA) : l < w'.heap.size ∧ z < w'.heap.size ∧ b < w'.heap.size := by
  obtain ⟨_, _, _, _, _, _, hi, _, _⟩ := h.lx.lex
  exact ⟨lt_of_heap hi, lt_of_heap h.lx.inp.inp.choose_spec.2, h.lx.inp.bl⟩
theorem Tryz.info179 : (Tryz.prog.info? 179).map (fun i => i.comparable) = some true := by kernel_rfl
theorem Tryz.info194 : (Tryz.prog.info? 194).map (fun i => i.comparable) = some true := by kernel_rfl
theorem eof_eql (EA : Addr) (w : World) : (binOp .eql 62 (.iface 179 (.pointer (some EA))) (.iface 179 (.pointer (some EA)))).run Tryz.prog w = .ok (.bool true) w := by
  obtain ⟨i, hi, hc⟩ := Option.map_eq_some_iff.mp Tryz.info179
  obtain ⟨j, hj, _⟩ := Option.map_eq_some_iff.mp Tryz.info194
  exact run_eql_iface_ptr_same (w := w) EA Tryz.underlying62 Tryz.underlying179 hi hc hj
theorem nil_eql (EA : Addr) (w : World) : (binOp .eql 62 .nilIface (.iface 179 (.pointer (some EA)))).run Tryz.prog w = .ok (.bool false) w := run_eql_iface_nil_left (w := w) 179 _ Tryz.underlying62
theorem errv_eql (r : Bool) (EA : Addr) (w : World) : (binOp .eql 62 (errv r 179 EA) (.iface 179 (.pointer (some EA)))).run Tryz.prog w = .ok (.bool r) w := by
  cases r
  · exact nil_eql EA w
  · exact eof_eql EA w
theorem errv_guard (r : Bool) (EA : Addr) (x y : Operand) (w : World) : (eqGuard .eql 62 x y (errv r 179 EA) (.iface 179 (.pointer (some EA)))).run Tryz.prog w = .ok () w := by cases r <;> rfl
end Go.Proofs.YtfcedenofbefcaaGreatDoor
