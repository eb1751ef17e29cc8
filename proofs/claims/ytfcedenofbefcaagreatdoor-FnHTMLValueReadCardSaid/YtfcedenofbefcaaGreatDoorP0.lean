import Derived.Test.YtfcedenofbefcaaGreatDoorQ0
import Derived.Test.YtfcedenofbefcaaGreatDoorK8
import Derived.Laws.OwnMore
namespace Go.Proofs.YtfcedenofbefcaaGreatDoor
open Go.RowKit
set_option linter.unusedVariables false
set_option linter.unusedSimpArgs false
/-- A piece: its kind; where its bytes, its text and its value lie, each with its bytes and the room from there on. -/
structure Pc where
  k : List Int
  A : Option Addr
  D : List Int
  c : Nat
  A2 : Option Addr
  T : List Int
  c2 : Nat
  A4 : Option Addr
  V : List Int
  c4 : Nat
def Pc.cells (x : Pc) : List Value := [.string (bstr x.k), .slice x.A x.D.length x.c, .slice x.A2 x.T.length x.c2, .slice none 0 0, .slice x.A4 x.V.length x.c4, .string ⟨#[]⟩]
def Pc.told (x : Pc) : GTok := (x.k, x.D, x.T, x.V)
def Firm (w : World) (lo k : Nat) : Prop := k < lo ∨ ∃ cs f, w.heap[k]? = some (.cells cs 5 f)
/-- The bytes D at A, with room c, below lo or in a block of bytes. -/
structure Seg (w : World) (lo : Nat) (A : Option Addr) (D : List Int) (c : Nat) : Prop where
  b : Bytes w A D
  k : D.length ≤ c
  f : 0 < D.length → ∀ ad, A = some ad → Firm w lo ad.block
theorem Seg.nil (w : World) (lo : Nat) : Seg w lo none [] 0 := ⟨⟨by decide, fun h => absurd h (by decide)⟩, Nat.le_refl _, fun h => absurd h (by decide)⟩
theorem Seg.of_block {w w' : World} {lo : Nat} {A : Option Addr} {D : List Int} {c : Nat} (h : Seg w lo A D c) (h1 : ∀ k, Firm w lo k → k < w.heap.size → w'.heap[k]? = w.heap[k]?) : Seg w' lo A D c :=
  ⟨h.b.of_block0 fun h0 ad e hl => h1 _ (h.f h0 ad e) hl, h.k, fun h0 ad e => by
    rcases h.f h0 ad e with hl | ⟨cs, f, hh⟩
    · exact .inl hl
    · exact .inr ⟨cs, f, (h1 _ (.inr ⟨cs, f, hh⟩) (lt_of_heap hh)).trans hh⟩⟩
theorem Seg.below {w w' : World} {lo : Nat} {A : Option Addr} {D : List Int} {c : Nat} (h : Seg w lo A D c) (k : Below w.heap.size w w') : Seg w' lo A D c := h.of_block fun i _ hi => k.block i hi
theorem Seg.low {w : World} {lo : Nat} {A : Option Addr} {D : List Int} {c : Nat} (h : Bytes w A D) (hk : D.length ≤ c) (hA : Lo lo A D) : Seg w lo A D c := ⟨h, hk, fun h0 ad e => .inl (hA h0 ad e)⟩
theorem copy_bytes {w : World} {g : Nat} {D : List Int} {f : Nat × Nat} (h : w.heap[g]? = some (.cells (D.map (Value.int .u8)).toArray 5 f)) (hl : D.length ≤ 140737488355328) : Bytes w (some ⟨g, 0, none⟩) D := by
  refine ⟨hl, fun _ => ⟨_, _, rfl, fun j hj => ?_⟩⟩
  rw [cell_of_block h, Nat.zero_add]
  simp only [List.getElem?_toArray]
  exact bytes_at hj
theorem Seg.new {w : World} {g lo : Nat} {D : List Int} {f : Nat × Nat} (h : w.heap[g]? = some (.cells (D.map (Value.int .u8)).toArray 5 f)) (hl : D.length ≤ 140737488355328) : Seg w lo (some ⟨g, 0, none⟩) D D.length :=
  ⟨copy_bytes h hl, Nat.le_refl _, fun _ ad e => by cases e; exact .inr ⟨_, _, h⟩⟩
structure Pc.Ok (x : Pc) (w : World) (lo : Nat) : Prop where
  d : Seg w lo x.A x.D x.c
  t : Seg w lo x.A2 x.T x.c2
  v : Seg w lo x.A4 x.V x.c4
theorem Pc.Ok.of_block {x : Pc} {w w' : World} {lo : Nat} (h : x.Ok w lo) (h1 : ∀ k, Firm w lo k → k < w.heap.size → w'.heap[k]? = w.heap[k]?) : x.Ok w' lo := ⟨h.d.of_block h1, h.t.of_block h1, h.v.of_block h1⟩
/-- The pieces lie in a row of the call's own; their bytes lie below lo, or in blocks of bytes. -/
structure Pcs (w : World) (lo base : Nat) (v : Value) (P : List Pc) : Prop where
  own : w.ownsRow base 36 6 v P.length (P.flatMap Pc.cells)
  dat : ∀ x ∈ P, x.Ok w lo
  lob : lo ≤ base
theorem own_block {w : World} {base t n m : Nat} {v : Value} {xs : List Value} (h : w.ownsRow base t n v m xs) {k : Nat} (hk : v.ownBlock = some k) : base ≤ k ∧ ∃ cs, w.heap[k]? = some (.cells cs t (0, 0)) := by
  obtain ⟨_, h⟩ := h
  rcases h with ⟨rfl, _⟩ | ⟨g, cap, cur, rfl, hg, hb, _⟩
  · cases hk
  · cases hk; exact ⟨hg, _, hb⟩
theorem own_of_block {w w' : World} {base t n m : Nat} {v : Value} {xs : List Value} (h : w.ownsRow base t n v m xs) (hb : ∀ k, v.ownBlock = some k → w'.heap[k]? = w.heap[k]?) : w'.ownsRow base t n v m xs := by
  obtain ⟨hx, h⟩ := h
  refine ⟨hx, ?_⟩
  rcases h with h | ⟨g, cap, cur, rfl, hg, hh, h⟩
  · exact .inl h
  · exact .inr ⟨g, cap, cur, rfl, hg, (hb g rfl).trans hh, h⟩
theorem own_below {w w' : World} {base t n m : Nat} {v : Value} {xs : List Value} (h : w.ownsRow base t n v m xs) (k : Below w.heap.size w w') : w'.ownsRow base t n v m xs := own_of_block h fun i hi => k.block i (h.lt i hi).2
theorem Pcs.of_block {w w' : World} {lo base : Nat} {v : Value} {P : List Pc} (h : Pcs w lo base v P) (h1 : ∀ k, Firm w lo k → k < w.heap.size → w'.heap[k]? = w.heap[k]?) (h2 : ∀ k, v.ownBlock = some k → w'.heap[k]? = w.heap[k]?) : Pcs w' lo base v P :=
  ⟨own_of_block h.own h2, fun x hx => (h.dat x hx).of_block h1, h.lob⟩
theorem Pcs.below {w w' : World} {lo base : Nat} {v : Value} {P : List Pc} (h : Pcs w lo base v P) (k : Below w.heap.size w w') : Pcs w' lo base v P :=
  h.of_block (fun i _ hi => k.block i hi) fun i hi => k.block i (h.own.lt i hi).2
theorem Pcs.alloc {w : World} {lo base : Nat} {v : Value} {P : List Pc} (h : Pcs w lo base v P) (o : Obj) : Pcs (w.alloc o) lo base v P := h.below ((Below.refl _ _).alloc (Nat.le_refl _) _)
theorem Pcs.drewN {w : World} {lo base : Nat} {v : Value} {P : List Pc} (h : Pcs w lo base v P) (n : Nat) : Pcs (w.drewN n) lo base v P := h.of_block (fun _ _ _ => rfl) fun _ _ => rfl
theorem Pcs.len {w : World} {lo base : Nat} {v : Value} {P : List Pc} (h : Pcs w lo base v P) : P.length * 6 = (P.flatMap Pc.cells).length := h.own.1.symm
/-- .. behind a change of two blocks that are no bytes (the lexer, its input). -/
theorem Pcs.fr {w w' : World} {lo base l z : Nat} {v : Value} {P : List Pc} (h : Pcs w lo base v P) (k : Fr l z w w') (hl1 : lo ≤ l) (hz1 : lo ≤ z) (hl2 : l < base) (hz2 : z < base) (hl3 : ∀ cs f, w.heap[l]? ≠ some (.cells cs 5 f)) (hz3 : ∀ cs f, w.heap[z]? ≠ some (.cells cs 5 f)) : Pcs w' lo base v P := by
  refine h.of_block (fun i hi hl => k.block i hl (fun e => ?_) fun e => ?_) fun i hi => k.block i (h.own.lt i hi).2 (fun e => ?_) fun e => ?_
  · subst e
    rcases hi with hi | ⟨cs, f, hh⟩
    · omega
    · exact hl3 _ _ hh
  · subst e
    rcases hi with hi | ⟨cs, f, hh⟩
    · omega
    · exact hz3 _ _ hh
  · have := (h.own.lt i hi).1
    omega
  · have := (h.own.lt i hi).1
    omega
theorem Pcs.nil {w : World} {lo base : Nat} (hb : base ≤ w.heap.size) (hl : lo ≤ base) : Pcs (w.alloc (.cells #[] 36)) lo base (.slice (some ⟨w.heap.size, 0, none⟩) 0 0) [] :=
  ⟨World.ownsRow_made (e := 36) (size := 6) w #[] 0 hb (by unfold maxLen; omega) rfl, (fun x hx => by cases hx), hl⟩
theorem Pcs.add {w w' : World} {lo base : Nat} {v v' : Value} {P : List Pc} (h : Pcs w lo base v P) (x : Pc) (hx : x.Ok w lo)
    (ho : w'.ownsRow base 36 6 v' (P.length + 1) (P.flatMap Pc.cells ++ x.cells)) (hg : w.grownBy w' v.ownBlock) : Pcs w' lo base v' (P ++ [x]) := by
  have hk : ∀ k, Firm w lo k → k < w.heap.size → w'.heap[k]? = w.heap[k]? := fun k hf hl => hg.block k hl fun e => by
    obtain ⟨h1, cs, h2⟩ := own_block h.own e.symm
    have := h.lob
    rcases hf with hf | ⟨cs', f, hf⟩
    · omega
    · rw [h2] at hf; simp at hf
  refine ⟨by simpa using ho, fun y hy => ?_, h.lob⟩
  rcases List.mem_append.mp hy with hy | hy
  · exact (h.dat y hy).of_block hk
  · obtain rfl := List.mem_singleton.mp hy
    exact hx.of_block hk
theorem Tryz.info36 : (Tryz.prog.info? 36).map (fun i => (i.zero, i.size, i.bytes)) = some (some (.agg #[.string ⟨#[]⟩, .slice none 0 0, .slice none 0 0, .slice none 0 0, .slice none 0 0, .string ⟨#[]⟩]), 6, 128) := by kernel_rfl
theorem Tryz.underlying26s : Tryz.prog.underlying 26 = some (.slice 36) := by kernel_rfl
theorem six_new {w : World} {g j : Nat} {y : Array Value} {u : Value} {t : TypeId} (hg : w.heap.size = g) (hu : y.toList[j]? = some u) : (w.alloc (.cells y t)).cell? ((⟨g, 0, none⟩ : Addr).add j) = some u := by
  subst hg
  have : (⟨w.heap.size, 0, none⟩ : Addr).add j = ⟨w.heap.size, j, none⟩ := by unfold Addr.add; split <;> simp_all
  rw [this, cell_of_block (heap_new _ _), ← Array.getElem?_toList]
  exact hu
/-- A row of pieces, as a slice. -/
theorem Pcs.form {w : World} {lo base : Nat} {v : Value} {P : List Pc} (h : Pcs w lo base v P) : ∃ A c, v = .slice A P.length c ∧ P.length ≤ maxLen ∧ (0 < P.length → ∃ g, A = some ⟨g, 0, none⟩ ∧ g < w.heap.size ∧ ∀ i j u, j < 6 → (P[i]?).bind (fun x => x.cells[j]?) = some u → w.cell? ⟨g, i * 6 + j, none⟩ = some u) := by
  obtain ⟨hx, h⟩ := h.own
  rcases h with ⟨rfl, h0⟩ | ⟨g, cap, cur, rfl, hg, hb, hc, hm, hs, ht⟩
  · rw [h0]; exact ⟨none, 0, rfl, by unfold maxLen; omega, fun h => by omega⟩
  · refine ⟨_, _, rfl, by omega, fun _ => ⟨g, rfl, lt_of_heap hb, fun i j u hj hu => ?_⟩⟩
    obtain ⟨x, hxi, hxu⟩ := Option.bind_eq_some_iff.mp hu
    have hi : i < P.length := (List.getElem?_eq_some_iff.mp hxi).1
    rw [cell_of_block hb, ← Array.getElem?_toList]
    have e : cur.toList[i * 6 + j]? = (cur.toList.take (P.length * 6))[i * 6 + j]? := by rw [List.getElem?_take, if_pos (by omega)]
    rw [e, ht]
    clear e ht hm hs hb hx hc
    have key : ∀ (P : List Pc) (i : Nat), P[i]? = some x → (P.flatMap Pc.cells)[i * 6 + j]? = some u := by
      intro P
      induction P with
      | nil => intro i h; simp at h
      | cons y P ih =>
        intro i h
        have hl : y.cells.length = 6 := rfl
        cases i with
        | zero =>
          simp at h
          subst h
          rw [List.flatMap_cons, List.getElem?_append_left (by omega)]
          simpa using hxu
        | succ i =>
          rw [List.flatMap_cons, List.getElem?_append_right (by omega), hl, show (i + 1) * 6 + j - 6 = i * 6 + j by omega]
          exact ih i (by simpa using h)
    exact key P i hxi
/-- The input and the lexer are no bytes. -/
theorem inp_no5 {w : World} {z b : Nat} {B : List Int} {ET : TypeId} {EA : Addr} {p s : Int} (h : In w z b B ET EA p s) : ∀ cs f, w.heap[z]? ≠ some (.cells cs 5 f) := by
  obtain ⟨c, hc, hi⟩ := h.inp
  intro cs f e
  rw [hi] at e
  simp at e
theorem In.below {w w' : World} {z b : Nat} {B : List Int} {ET : TypeId} {EA : Addr} {p s : Int} (h : In w z b B ET EA p s) (k : Below w.heap.size w w') : In w' z b B ET EA p s :=
  h.fr (Fr.below k) fun c hz => (k.block z (lt_of_heap hz)).trans hz
theorem In.grown {w w' : World} {z b : Nat} {B : List Int} {ET : TypeId} {EA : Addr} {p s : Int} (h : In w z b B ET EA p s) {row : Option Nat} (hg : w.grownBy w' row) (base : Nat) (hr : ∀ k, row = some k → base ≤ k) (hz : z < base) (hb : b < base) : In w' z b B ET EA p s := by
  have hk : ∀ k, k < base → k < w.heap.size → w'.heap[k]? = w.heap[k]? := fun k h1 h2 => hg.block k h2 fun e => by have := hr k e.symm; omega
  obtain ⟨c, hc, hi⟩ := h.inp
  have h0 := h.eof
  exact ⟨⟨c, hc, (hk z hz (lt_of_heap hi)).trans hi⟩, fun i hi => (World.cell?_of_block (w := w) (hk b hb h.bl)).trans (h.bytes i hi), h.len, h.pos, h.bz, (World.cell?_of_block (w := w) (hk 0 (by omega) (World.block_lt_of_cell? _ _ h0))).trans h0, h.z0⟩
theorem In.setOther {w : World} {z b g i : Nat} {B : List Int} {ET : TypeId} {EA : Addr} {p s : Int} (h : In w z b B ET EA p s) (hz : g ≠ z) (hb : g ≠ b) (h0 : g ≠ 0) (u : Value) : In (w.setCell ⟨g, i, none⟩ u) z b B ET EA p s := by
  obtain ⟨c, hc, hi⟩ := h.inp
  exact ⟨⟨c, hc, (heap_set_other u hz).trans hi⟩, fun i hi => (World.cell?_of_block (w := w) (heap_set_other u hb)).trans (h.bytes i hi), h.len, h.pos, h.bz, (World.cell?_of_block (w := w) (heap_set_other u h0)).trans h.eof, h.z0⟩
theorem _root_.Go.RowKit.Below.frz {B0 l z : Nat} {a w w' : World} (h : Below B0 a w) (k : Fr l z w w') (hl : B0 ≤ l) (hz : B0 ≤ z) (hs : B0 ≤ w.heap.size) : Below B0 a w' :=
  h.trans ⟨k.os, k.tape, k.output, k.size, fun i hi => by
    exact k.block i (by omega) (by omega) (by omega)⟩
theorem _root_.Go.RowKit.Below.drewN {B0 : Nat} {a w : World} (h : Below B0 a w) (n : Nat) : Below B0 a (w.drewN n) := h.trans ⟨rfl, rfl, rfl, Nat.le_refl _, fun _ _ => rfl⟩

/-- A part of a text. -/
def subB (B : List Int) (lo hi : Int) : Option (List Int) := if 0 ≤ lo ∧ lo ≤ hi ∧ hi ≤ B.length then some ((B.drop lo.toNat).take (hi.toNat - lo.toNat)) else none
theorem subB_of {B S : List Int} {lo hi : Int} (h : Hd (subB B lo hi = some S)) : (0 ≤ lo ∧ lo ≤ hi ∧ hi ≤ B.length) ∧ S = (B.drop lo.toNat).take (hi.toNat - lo.toNat) ∧ S.length = hi.toNat - lo.toNat := by
  have h := h.out
  unfold subB at h
  split at h
  · rename_i hb
    obtain rfl := Option.some.inj h
    exact ⟨hb, rfl, by rw [List.length_take, List.length_drop]; omega⟩
  · cases h
theorem sub_bytes {w : World} {z b : Nat} {B S : List Int} {ET : TypeId} {EA : Addr} {p s lo hi : Int} (h : In w z b B ET EA p s) (hS : Hd (subB B lo hi = some S)) : Bytes w (some ⟨b, lo.toNat, none⟩) S := by
  obtain ⟨hb, e, hl⟩ := subB_of hS
  refine ⟨by have := h.len; omega, fun _ => ⟨b, lo.toNat, rfl, fun j hj => ?_⟩⟩
  have := h.bytes (lo.toNat + j) (by omega)
  rw [this]
  subst e
  congr 2
  rw [List.getD_eq_getElem?_getD, List.getD_eq_getElem?_getD, List.getElem?_take, if_pos (by omega), List.getElem?_drop]
theorem slv_form {B S : List Int} {b : Nat} {lo hi : Int} (h : Hd (subB B lo hi = some S)) : ∃ A c, slv b lo hi = .slice A S.length c ∧ S.length ≤ c ∧ ∀ (w : World) (z : Nat) (ET : TypeId) (EA : Addr) (p s : Int), In w z b B ET EA p s → Bytes w A S := by
  obtain ⟨hb, e, hl⟩ := subB_of h
  by_cases he : hi.toNat = lo.toNat
  · refine ⟨some ⟨b, 0, none⟩, 0, ?_, by omega, fun w z ET EA p s hx => ⟨by omega, fun h => by omega⟩⟩
    rw [hl]; unfold slv; rw [if_pos he, he, Nat.sub_self]
  · refine ⟨some ⟨b, lo.toNat, none⟩, hi.toNat - lo.toNat, ?_, by omega, fun w z ET EA p s hx => sub_bytes hx h⟩
    rw [hl]; unfold slv; rw [if_neg he]
theorem sv_form {w : World} {z b : Nat} {B S : List Int} {ET : TypeId} {EA : Addr} {p s lo hi : Int} {A : Option Addr} {n c : Nat} (h : In w z b B ET EA p s) (hv : Sv b B lo hi A n c) (hS : Hd (subB B lo hi = some S)) : n = S.length ∧ Bytes w A S := by
  obtain ⟨hb, e, hl⟩ := subB_of hS
  obtain ⟨s1, s2, s3, s4, s5⟩ := hv
  refine ⟨by omega, ?_⟩
  have := sub_bytes h hS
  by_cases h0 : 0 < S.length
  · rw [s5 (by omega)]; exact this
  · exact ⟨by have := h.len; omega, fun h => absurd h h0⟩
end Go.Proofs.YtfcedenofbefcaaGreatDoor
