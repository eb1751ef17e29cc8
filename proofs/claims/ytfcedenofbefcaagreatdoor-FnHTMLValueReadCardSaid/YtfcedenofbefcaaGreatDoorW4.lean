import Derived.Test.YtfcedenofbefcaaGreatDoorW3
namespace Go.Proofs.YtfcedenofbefcaaGreatDoor
open Go.RowKit
set_option linter.unusedVariables false
set_option linter.unusedSimpArgs false
/-- What '[]byte(s)' makes. -/
def layc (w : World) (s : ByteArray) : Nat := grownCap w s.size 0 5
def World.lay (w : World) (s : ByteArray) : World := w.drew.alloc (.cells (bytesRow s (layc w s)) 5 ((bytesRow s (layc w s)).size, (bytesRow s (layc w s)).size + 1))
theorem Tryz.underlying9' : Tryz.prog.underlying 9 = some .string := by kernel_rfl
theorem run_lay (w : World) (s : ByteArray) : (convert 9 25 (.string s)).run Tryz.prog w = .ok (.slice (some ⟨w.heap.size, 0, none⟩) s.size (layc w s)) (World.lay w s) :=
  run_bytes_of_string w 9 25 5 s Tryz.underlying9' Tryz.underlying25 Tryz.underlying5
theorem kp_lay {w W : World} (h : Kp w W) (s : ByteArray) : Kp w (World.lay W s) := kp_alloc (kp_drew h) _
theorem lay_size (w : World) (s : ByteArray) : (World.lay w s).heap.size = w.heap.size + 1 := by unfold World.lay; simp
/-- The bytes of a string, as numbers. -/
def strB (s : ByteArray) : List Int := s.data.toList.map fun b => (b.toNat : Int)
theorem strB_len (s : ByteArray) : (strB s).length = s.size := by unfold strB; rw [List.length_map, Array.length_toList]; rfl
theorem slc_lay (w : World) (s : ByteArray) (hs : s.size ≤ 1000) : Slc (World.lay w s) (some ⟨w.heap.size, 0, none⟩) (strB s) (layc w s) := by
  refine ⟨⟨by rw [strB_len]; omega, fun _ => ⟨_, _, rfl, fun j hj => ?_⟩⟩, by rw [strB_len]; exact grownCap_ge _ _ _ _, (fun e => by cases e)⟩
  rw [strB_len] at hj
  have hj' : j < s.data.size := hj
  have : (World.lay w s).heap[w.heap.size]? = _ := heap_new w.drew _
  rw [cell_of_block this, Nat.zero_add, bytesRow_at s _ j hj']
  unfold strB
  rw [List.getD_eq_getElem?_getD, List.getElem?_map, Array.getElem?_toList, Array.getElem?_eq_getElem hj']
  rfl
theorem strB_start (k : Int) : strB (bstr (startT k)) = startT k := by unfold startT; split <;> decide
theorem strB_last (k : Int) : strB (bstr (lastT k)) = lastT k := by
  unfold lastT
  by_cases h5 : k = 5
  · rw [if_pos h5]; decide
  · rw [if_neg h5]; split <;> decide
theorem size_start (k : Int) : (bstr (startT k)).size ≤ 1000 := by rw [← strB_len, strB_start]; unfold startT; split <;> decide
theorem size_last (k : Int) : (bstr (lastT k)).size ≤ 1000 := by
  rw [← strB_len, strB_last]
  unfold lastT
  by_cases h5 : k = 5
  · rw [if_pos h5]; decide
  · rw [if_neg h5]; split <;> decide
/-- Bytes in memory: a slice, in a block that no append touches. -/
structure Byt (w : World) (lo : Nat) (A : Option Addr) (T : List Int) (c : Nat) : Prop where
  s : Slc w A T c
  g : Seg w lo A T c
theorem Byt.kp {w W : World} {lo : Nat} {A : Option Addr} {T : List Int} {c : Nat} (h : Byt w lo A T c) (k : Kp w W) : Byt W lo A T c := ⟨h.s.kp k, h.g.kp k⟩
theorem keep_grown {W W' : World} {lo base n : Nat} {v : Value} {xs : List Value} (hown : W.ownsRow base 36 6 v n xs) (hl : lo ≤ base) (hg : W.grownBy W' v.ownBlock) (k : Nat) (hf : Firm W lo k) (hk : k < W.heap.size) : W'.heap[k]? = W.heap[k]? := by
  refine hg.block k hk fun e => ?_
  obtain ⟨h1, cs, h2⟩ := own_block hown e.symm
  rcases hf with hf | ⟨cs', f, hf⟩
  · omega
  · rw [h2] at hf; simp at hf
theorem Byt.grown {W W' : World} {lo base n : Nat} {v : Value} {xs : List Value} {A : Option Addr} {T : List Int} {c : Nat} (h : Byt W lo A T c) (hown : W.ownsRow base 36 6 v n xs) (hl : lo ≤ base) (hg : W.grownBy W' v.ownBlock) : Byt W' lo A T c :=
  ⟨⟨h.s.b.of_block0 fun h0 ad e hk => keep_grown hown hl hg _ (h.g.f h0 ad e) hk, h.s.k, h.s.z⟩, h.g.of_block fun k hf hk => keep_grown hown hl hg k hf hk⟩
theorem Byt.lay (w : World) (lo : Nat) (s : ByteArray) (hs : s.size ≤ 1000) : Byt (World.lay w s) lo (some ⟨w.heap.size, 0, none⟩) (strB s) (layc w s) :=
  have h := slc_lay w s hs
  ⟨h, h.b, h.k, fun _ ad e => by cases e; exact .inr ⟨_, _, heap_new w.drew _⟩⟩
/-- The cells of an attribute's box at g, in a world that holds more than W0. -/
def BS (y : AttrV) (g : Nat) (W0 W : World) : Prop :=
  W.cell? ⟨g, 0, none⟩ = some (.slice y.A1 y.d.before.length y.c1) ∧ W.cell? ⟨g, 1, none⟩ = some (.slice y.A2 y.d.name.length y.c2) ∧ W.cell? ⟨g, 2, none⟩ = some (.slice y.A3 y.d.ahead.length y.c3) ∧
  W.cell? ⟨g, 3, none⟩ = some (.slice y.A4 y.d.behind.length y.c4) ∧ W.cell? ⟨g, 4, none⟩ = some (.slice y.A5 y.d.value.length y.c5) ∧ W.cell? ⟨g, 5, none⟩ = some (.int .i64 y.d.quote) ∧ Hd (Kp W0 W)
theorem BS.of {y : AttrV} {g : Nat} {W0 W W' : World} (h : BS y g W0 W) (hc : ∀ j u, W.cell? ⟨g, j, none⟩ = some u → W'.cell? ⟨g, j, none⟩ = some u) (k : Kp W0 W') : BS y g W0 W' :=
  ⟨hc _ _ h.1, hc _ _ h.2.1, hc _ _ h.2.2.1, hc _ _ h.2.2.2.1, hc _ _ h.2.2.2.2.1, hc _ _ h.2.2.2.2.2.1, ⟨k⟩⟩
theorem BS.k {y : AttrV} {g : Nat} {W0 W : World} (h : BS y g W0 W) : Kp W0 W := h.2.2.2.2.2.2.out
theorem BS.call {y : AttrV} {g : Nat} {W0 W W' : World} (h : BS y g W0 W) (k : Below W.heap.size W W') : BS y g W0 W' :=
  h.of (fun j u hu => (k.cell (p := ⟨g, j, none⟩) (World.block_lt_of_cell? _ _ hu)).trans hu) (kp_call h.k k)
theorem BS.alloc {y : AttrV} {g : Nat} {W0 W : World} (h : BS y g W0 W) (o : Obj) : BS y g W0 (W.alloc o) := h.call ((Below.refl _ _).alloc (Nat.le_refl _) o)
theorem BS.drew {y : AttrV} {g : Nat} {W0 W : World} (h : BS y g W0 W) : BS y g W0 W.drew := h.of (fun _ _ hu => hu) (kp_drew h.k)
theorem BS.grown {y : AttrV} {g n base : Nat} {W0 W W' : World} {v : Value} {xs : List Value} (h : BS y g W0 W) (hown : W.ownsRow base 36 6 v n xs) (hb : W0.heap.size ≤ base) (hg : W.grownBy W' v.ownBlock) (hn : ∀ cs f, W.heap[g]? ≠ some (.cells cs 36 f)) : BS y g W0 W' :=
  h.of (fun j u hu => (World.cell?_of_block (w := W) (hg.block g (World.block_lt_of_cell? _ _ hu) fun e => by
    obtain ⟨_, cs, h2⟩ := own_block hown e.symm
    exact hn _ _ h2)).trans hu) (kp_grown h.k hg fun k hk => by
    obtain ⟨h1, _⟩ := own_block hown hk
    omega)
theorem BS.new {y : AttrV} {W0 W : World} (k : Kp W0 W) : BS y W.heap.size W0 (W.alloc y.box) :=
  ⟨new_cell rfl, new_cell rfl, new_cell rfl, new_cell rfl, new_cell rfl, new_cell rfl, ⟨kp_alloc k _⟩⟩
theorem not36 {W W' : World} {g : Nat} {cs : Array Value} {t : TypeId} {f : Nat × Nat} (h : W.heap[g]? = some (.cells cs t f)) (ht : t ≠ 36) (k : Below W.heap.size W W') : ∀ cs f, W'.heap[g]? ≠ some (.cells cs 36 f) := by
  intro cs' f' e
  rw [k.block g (lt_of_heap h), h] at e
  simp only [Option.some.injEq, Obj.cells.injEq] at e
  exact ht e.2.1
theorem Pcs.grow {W W' : World} {lo base : Nat} {v : Value} {P : List Pc} (h : Pcs W lo base v P) (k : Kp W W') : Pcs W' lo base v P := h.below k
/-- The cells of an item's box. -/
def ItemV.box (x : ItemV) : Obj := .cells #[.int .i64 x.kind, .slice x.A1 x.text.length x.c1, .slice x.A2 x.name.length x.c2, .slice x.A3 x.attrs.length x.c3] 43
theorem box_cell {x : ItemV} {w W : World} (k : Kp (w.alloc x.box) W) (j : Nat) (u : Value) (hu : (#[.int .i64 x.kind, .slice x.A1 x.text.length x.c1, .slice x.A2 x.name.length x.c2, .slice x.A3 x.attrs.length x.c3] : Array Value)[j]? = some u) : W.cell? ⟨w.heap.size, j, none⟩ = some u :=
  (Below.cell (show Below _ _ _ from k) (p := ⟨w.heap.size, j, none⟩) (by simp)).trans (new_cell hu)
end Go.Proofs.YtfcedenofbefcaaGreatDoor
