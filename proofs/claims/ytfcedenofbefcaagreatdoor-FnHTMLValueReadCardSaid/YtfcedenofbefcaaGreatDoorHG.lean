import Derived.Test.YtfcedenofbefcaaGreatDoorXE
import Derived.Test.YtfcedenofbefcaaGreatDoorK9
namespace Go.Proofs.YtfcedenofbefcaaGreatDoor
open Go.RowKit
set_option linter.unusedVariables false
set_option linter.unusedSimpArgs false
/-! The lexer of HTML made; its error; its texts. -/
theorem HErr_quiet {w : World} {l z b : Nat} {B : List Int} {ET : TypeId} {EA : Addr} {p s : Int} {rt : Int} {tg : Bool} {tl th al ah : Int} (h : Hl w l z b B ET EA p s rt tg tl th al ah) (r : Bool) (hn : atEnd B p 0 = r) :
    Calls Tryz.prog 38 #[.pointer (some ⟨l, 0, none⟩)] w fun e w' => e = .returned (errv r ET EA) ∧ ∃ m, w' = w.drewN m := by
  have H := Hd.mk hn
  have c0 := h.c0
  have c3 := h.c3
  clear hn
  go_enter Tryz.func38, Tryz.ntmps38
  go_wp2_with fail
  refine (Err_quiet h.inp r H.out).mono ?_
  rintro e w1 ⟨rfl, m, rfl⟩
  go_wp2_with fail
  go_ret
  exact ⟨rfl, m, rfl⟩
theorem HText_calls {w : World} {l z b : Nat} {B : List Int} {ET : TypeId} {EA : Addr} {p s : Int} {rt : Int} {tg : Bool} {tl th al ah : Int} (h : Hl w l z b B ET EA p s rt tg tl th al ah) :
    Calls Tryz.prog 35 #[.pointer (some ⟨l, 0, none⟩)] w fun e w' => (∃ A n c, e = .returned (.slice A n c) ∧ Sv b B tl th A n c) ∧ w = w' := by
  obtain ⟨A, n, c, hc, hS⟩ := h.ct
  go_enter Tryz.func35, Tryz.ntmps35
  go_wp2_with fail
  go_ret
  exact ⟨⟨A, n, c, rfl, hS⟩, rfl⟩
theorem HKey_calls {w : World} {l z b : Nat} {B : List Int} {ET : TypeId} {EA : Addr} {p s : Int} {rt : Int} {tg : Bool} {tl th al ah : Int} (h : Hl w l z b B ET EA p s rt tg tl th al ah) :
    Calls Tryz.prog 36 #[.pointer (some ⟨l, 0, none⟩)] w fun e w' => (∃ A n c, e = .returned (.slice A n c) ∧ Sv b B tl th A n c) ∧ w = w' := by
  obtain ⟨A, n, c, hc, hS⟩ := h.ct
  go_enter Tryz.func36, Tryz.ntmps36
  go_wp2_with fail
  go_ret
  exact ⟨⟨A, n, c, rfl, hS⟩, rfl⟩
theorem HVal_calls {w : World} {l z b : Nat} {B : List Int} {ET : TypeId} {EA : Addr} {p s : Int} {rt : Int} {tg : Bool} {tl th al ah : Int} (h : Hl w l z b B ET EA p s rt tg tl th al ah) :
    Calls Tryz.prog 37 #[.pointer (some ⟨l, 0, none⟩)] w fun e w' => (∃ A n c, e = .returned (.slice A n c) ∧ Sv b B al ah A n c) ∧ w = w' := by
  obtain ⟨A, n, c, hc, hS⟩ := h.ca
  go_enter Tryz.func37, Tryz.ntmps37
  go_wp2_with fail
  go_ret
  exact ⟨⟨A, n, c, rfl, hS⟩, rfl⟩
theorem HNew_calls {w : World} {z : Nat} :
    Calls Tryz.prog 32 #[.pointer (some ⟨z, 0, none⟩)] w fun e w' => e = .returned (.pointer (some ⟨w.heap.size, 0, none⟩)) ∧ w.alloc (.cells #[.pointer (some ⟨z, 0, none⟩), .slice none 0 0, .slice none 0 0, .nilIface, .int .u32 0, .bool false, .slice none 0 0, .slice none 0 0, .bool false] 93) = w' := by
  go_enter Tryz.func32, Tryz.ntmps32
  go_wp2
  go_ret
  exact ⟨rfl, rfl⟩
theorem hlex_no5 {w : World} {l z b : Nat} {B : List Int} {ET : TypeId} {EA : Addr} {p s : Int} {rt : Int} {tg : Bool} {tl th al ah : Int} (h : Hl w l z b B ET EA p s rt tg tl th al ah) : ∀ cs f, w.heap[l]? ≠ some (.cells cs 5 f) := by
  obtain ⟨_, _, _, _, _, _, hi, _, _⟩ := h.lex
  intro cs f e
  rw [hi] at e
  simp at e
theorem Hl.grown {w w' : World} {l z b : Nat} {B : List Int} {ET : TypeId} {EA : Addr} {p s : Int} {rt : Int} {tg : Bool} {tl th al ah : Int} (h : Hl w l z b B ET EA p s rt tg tl th al ah) {row : Option Nat} (hg : w.grownBy w' row) (base : Nat) (hr : ∀ k, row = some k → base ≤ k) (hl : l < base) (hz : z < base) (hb : b < base) (h2 : 2 < base) : Hl w' l z b B ET EA p s rt tg tl th al ah := by
  have hk : ∀ k, k < base → k < w.heap.size → w'.heap[k]? = w.heap[k]? := fun k h1 h2 => hg.block k h2 fun e => by have := hr k e.symm; omega
  obtain ⟨A1, n1, c1, A2, n2, c2, hi, h1, h3⟩ := h.lex
  exact ⟨h.inp.grown hg base hr hz hb, ⟨A1, n1, c1, A2, n2, c2, (hk l hl (lt_of_heap hi)).trans hi, h1, h3⟩, h.lz, h.lb, h.l0, h.tab.of_block fun hl => hk 2 h2 hl, h.l2, h.z2⟩
theorem Hl.setOther {w : World} {l z b g i : Nat} {B : List Int} {ET : TypeId} {EA : Addr} {p s : Int} {rt : Int} {tg : Bool} {tl th al ah : Int} (h : Hl w l z b B ET EA p s rt tg tl th al ah) (hl : g ≠ l) (hz : g ≠ z) (hb : g ≠ b) (h0 : g ≠ 0) (h2 : g ≠ 2) (u : Value) : Hl (w.setCell ⟨g, i, none⟩ u) l z b B ET EA p s rt tg tl th al ah := by
  obtain ⟨A1, n1, c1, A2, n2, c2, hi, h1, h3⟩ := h.lex
  exact ⟨h.inp.setOther hz hb h0 u, ⟨A1, n1, c1, A2, n2, c2, (heap_set_other u hl).trans hi, h1, h3⟩, h.lz, h.lb, h.l0, h.tab.of_block fun _ => heap_set_other u h2, h.l2, h.z2⟩
/-- The lexer over the bytes T is made. -/
structure MadeH (T : List Int) (B0 : Nat) (w w' : World) (l z b : Nat) (ET : TypeId) (EA : Addr) : Prop where
  lx : Hl w' l z b (T ++ [0]) ET EA 0 0 0 false 0 0 0 0
  mem : Below B0 w w'
  hl : B0 ≤ l
  hz : B0 ≤ z
  hb : B0 ≤ b
theorem madeH {T : List Int} {B0 : Nat} {w w1 w2 : World} {ET : TypeId} {EA : Addr} (h0 : w.cell? ⟨0, 0, none⟩ = some (.iface ET (.pointer (some EA)))) (ht : HTab w) (hB : B0 ≤ w.heap.size) (hB0 : 2 < B0) (hlen : T.length ≤ 140737488355000) (hm : Below B0 w w1) (hs : w.heap.size ≤ w1.heap.size) {e : Ending} (hn : NewPost T B0 w1 e w2) :
    ∃ z b, e = .returned (.pointer (some ⟨z, 0, none⟩)) ∧ MadeH T B0 w (w2.alloc (.cells #[.pointer (some ⟨z, 0, none⟩), .slice none 0 0, .slice none 0 0, .nilIface, .int .u32 0, .bool false, .slice none 0 0, .slice none 0 0, .bool false] 93)) w2.heap.size z b ET EA := by
  obtain ⟨z, b, c, rfl, hz, hb, hbz, hc, hzs, hblk, hcell, hbel⟩ := hn
  have hzl := lt_of_heap hblk
  have h0' : w2.cell? ⟨0, 0, none⟩ = some (.iface ET (.pointer (some EA))) := (hbel.cell (p := ⟨0, 0, none⟩) (by show 0 < B0; omega)).trans ((hm.cell (p := ⟨0, 0, none⟩) (by show 0 < B0; omega)).trans h0)
  have hb0 := hcell 0 (by omega)
  have hbl : b < w2.heap.size := World.block_lt_of_cell? _ _ hb0
  have hbs := hbel.size
  have ht2 : HTab (w2.alloc (.cells #[.pointer (some ⟨z, 0, none⟩), .slice none 0 0, .slice none 0 0, .nilIface, .int .u32 0, .bool false, .slice none 0 0, .slice none 0 0, .bool false] 93)) := ht.of_block fun hl => ((hm.trans hbel).alloc (by omega) (.cells #[.pointer (some ⟨z, 0, none⟩), .slice none 0 0, .slice none 0 0, .nilIface, .int .u32 0, .bool false, .slice none 0 0, .slice none 0 0, .bool false] 93)).block 2 hB0
  refine ⟨z, b, rfl, ⟨⟨⟨⟨c, by simpa using hc, ?_⟩, fun i hi => ?_, by simp; omega, by simp, hbz, ?_, by omega⟩, ⟨none, 0, 0, none, 0, 0, heap_new _ _, Sv.nil _ _, Sv.nil _ _⟩, by omega, by omega, by omega, ht2, by omega, by omega⟩, ?_, by omega, hz, hb⟩⟩
  · rw [Below.heap_alloc _ _ _ hzl]
    simpa using hblk
  · rw [World.cell?_alloc_lt _ _ _ hbl]
    exact hcell i (by simpa using hi)
  · rw [World.cell?_alloc_lt _ _ _ (World.block_lt_of_cell? _ _ h0')]
    exact h0'
  · have := hm.trans hbel
    exact this.alloc (by omega) _
theorem MadeH.lt {T : List Int} {B0 : Nat} {w w' : World} {l z b : Nat} {ET : TypeId} {EA : Addr} (h : MadeH T B0 w w' l z b ET EA) : l < w'.heap.size ∧ z < w'.heap.size ∧ b < w'.heap.size := by
  obtain ⟨_, _, _, _, _, _, hi, _, _⟩ := h.lx.lex
  exact ⟨lt_of_heap hi, lt_of_heap h.lx.inp.inp.choose_spec.2, h.lx.inp.bl⟩
def PiecesPost (L : List GTok) (r : Bool) (w : World) (e : Ending) (w' : World) : Prop :=
  ∃ v P base, e = .returned (.tuple #[v, .bool r]) ∧ Pcs w' w.heap.size base v P ∧ P.map Pc.told = L ∧ Below w.heap.size w w'
theorem pc_oneH (x : Pc) : ∀ u ∈ x.cells, u.oneCell' = true := by
  intro u hu
  simp only [Pc.cells, List.mem_cons, List.mem_nil_iff, or_false] at hu
  rcases hu with rfl | rfl | rfl | rfl | rfl | rfl <;> rfl
theorem firm_set {w : World} {lo g i k : Nat} {u : Value} (hg : lo ≤ g) (hn : ∀ cs f, w.heap[g]? ≠ some (.cells cs 5 f)) (hf : Firm w lo k) : (w.setCell ⟨g, i, none⟩ u).heap[k]? = w.heap[k]? := by
  refine heap_set_other u fun e => ?_
  subst e
  rcases hf with hf | ⟨cs, f, hh⟩
  · omega
  · exact hn _ _ hh
theorem Seg.setOther {w : World} {lo g i : Nat} {A : Option Addr} {D : List Int} {c : Nat} (h : Seg w lo A D c) (hg : lo ≤ g) (hn : ∀ cs f, w.heap[g]? ≠ some (.cells cs 5 f)) (u : Value) : Seg (w.setCell ⟨g, i, none⟩ u) lo A D c :=
  h.of_block fun k hf _ => firm_set hg hn hf
theorem Pcs.setOther {w : World} {lo base g i : Nat} {v : Value} {P : List Pc} (h : Pcs w lo base v P) (hg : lo ≤ g) (hn : ∀ cs f, w.heap[g]? ≠ some (.cells cs 5 f)) (ho : ∀ k, v.ownBlock = some k → g ≠ k) (u : Value) : Pcs (w.setCell ⟨g, i, none⟩ u) lo base v P :=
  h.of_block (fun k hf _ => firm_set hg hn hf) fun k hk => heap_set_other u (ho k hk)
end Go.Proofs.YtfcedenofbefcaaGreatDoor
