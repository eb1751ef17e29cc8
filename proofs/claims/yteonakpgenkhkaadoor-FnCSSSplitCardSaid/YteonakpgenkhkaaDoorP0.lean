import Derived.Test.YteonakpgenkhkaaDoorL19
import Derived.Laws.OwnMore
namespace Go.Proofs.YteonakpgenkhkaaDoor
open Go.RowKit
set_option linter.unusedVariables false
set_option linter.unusedSimpArgs false
/-- A piece: its kind, where its bytes lie, the bytes, and the room from there on. -/
structure Pc where
  k : List Int
  A : Option Addr
  D : List Int
  c : Nat
def Pc.cells (x : Pc) : List Value := [.string (bstr x.k), .slice x.A x.D.length x.c, .slice none 0 0, .slice none 0 0, .slice none 0 0, .string ⟨#[]⟩]
def Pc.told (x : Pc) : List Int × List Int := (x.k, x.D)
def Firm (w : World) (lo k : Nat) : Prop := k < lo ∨ ∃ cs f, w.heap[k]? = some (.cells cs 5 f)
/-- The pieces lie in a row of the call's own; their bytes lie below lo, or in blocks of bytes. -/
structure Pcs (w : World) (lo base : Nat) (v : Value) (P : List Pc) : Prop where
  own : w.ownsRow base 31 6 v P.length (P.flatMap Pc.cells)
  dat : ∀ x ∈ P, Bytes w x.A x.D ∧ x.D.length ≤ x.c ∧ ∀ ad, x.A = some ad → Firm w lo ad.block
  lob : lo ≤ base
theorem Bytes.below' {w w' : World} {A : Option Addr} {T : List Int} (h : Bytes w A T) (k : Below w.heap.size w w') : Bytes w' A T := h.of_block fun ad _ hl => k.block ad.block hl
theorem Bytes.inside {w : World} {A : Option Addr} {T : List Int} (h : Bytes w A T) (h0 : 0 < T.length) : ∀ ad, A = some ad → ad.block < w.heap.size := fun ad e => by subst e; exact h.lt h0
theorem own_block {w : World} {base t n m : Nat} {v : Value} {xs : List Value} (h : w.ownsRow base t n v m xs) {k : Nat} (hk : v.ownBlock = some k) : base ≤ k ∧ ∃ cs, w.heap[k]? = some (.cells cs t (0, 0)) := by
  obtain ⟨_, h⟩ := h
  rcases h with ⟨rfl, _⟩ | ⟨g, cap, cur, rfl, hg, hb, _⟩
  · cases hk
  · cases hk; exact ⟨hg, _, hb⟩
theorem own_of_block {w w' : World} {base t n m : Nat} {v : Value} {xs : List Value} (h : w.ownsRow base t n v m xs) (hb : ∀ k, v.ownBlock = some k → w'.heap[k]? = w.heap[k]?) : w'.ownsRow base t n v m xs := by
  obtain ⟨hx, h⟩ := h
  refine ⟨hx, ?_⟩
  rcases h with h | ⟨g, cap, cur, rfl, hg, hh, h⟩
  · exact .inl h
  · exact .inr ⟨g, cap, cur, rfl, hg, (hb g rfl).trans hh, h⟩
theorem Pcs.of_block {w w' : World} {lo base : Nat} {v : Value} {P : List Pc} (h : Pcs w lo base v P) (h1 : ∀ k, Firm w lo k → k < w.heap.size → w'.heap[k]? = w.heap[k]?) (h2 : ∀ k, v.ownBlock = some k → w'.heap[k]? = w.heap[k]?) : Pcs w' lo base v P := by
  refine ⟨own_of_block h.own h2, fun x hx => ?_, h.lob⟩
  obtain ⟨hB, hc, hF⟩ := h.dat x hx
  refine ⟨hB.of_block fun ad e hl => h1 _ (hF ad e) hl, hc, fun ad e => ?_⟩
  rcases hF ad e with hl | ⟨cs, f, hh⟩
  · exact .inl hl
  · exact .inr ⟨cs, f, (h1 _ (.inr ⟨cs, f, hh⟩) (lt_of_heap hh)).trans hh⟩
theorem Pcs.below {w w' : World} {lo base : Nat} {v : Value} {P : List Pc} (h : Pcs w lo base v P) (k : Below w.heap.size w w') : Pcs w' lo base v P :=
  h.of_block (fun i _ hi => k.block i hi) fun i hi => k.block i (h.own.lt i hi).2
theorem Pcs.alloc {w : World} {lo base : Nat} {v : Value} {P : List Pc} (h : Pcs w lo base v P) (o : Obj) : Pcs (w.alloc o) lo base v P := h.below ((Below.refl _ _).alloc (Nat.le_refl _) _)
theorem Pcs.drewN {w : World} {lo base : Nat} {v : Value} {P : List Pc} (h : Pcs w lo base v P) (n : Nat) : Pcs (w.drewN n) lo base v P := h.of_block (fun _ _ _ => rfl) fun _ _ => rfl
theorem Pcs.len {w : World} {lo base : Nat} {v : Value} {P : List Pc} (h : Pcs w lo base v P) : P.length * 6 = (P.flatMap Pc.cells).length := h.own.1.symm
theorem Pcs.fr {w w' : World} {lo base z : Nat} {v : Value} {P : List Pc} (h : Pcs w lo base v P) (k : Fr z w w') (h1 : lo ≤ z) (h2 : z < base) (h3 : ∀ cs f, w.heap[z]? ≠ some (.cells cs 5 f)) : Pcs w' lo base v P := by
  refine h.of_block (fun i hi hl => k.block i hl fun e => ?_) fun i hi => k.block i (h.own.lt i hi).2 fun e => ?_
  · subst e
    rcases hi with hi | ⟨cs, f, hh⟩
    · omega
    · exact h3 _ _ hh
  · have := (h.own.lt i hi).1
    omega
theorem Pcs.nil {w : World} {lo base : Nat} (hb : base ≤ w.heap.size) (hl : lo ≤ base) : Pcs (w.alloc (.cells #[] 31)) lo base (.slice (some ⟨w.heap.size, 0, none⟩) 0 0) [] :=
  ⟨World.ownsRow_made (e := 31) (size := 6) w #[] 0 hb (by unfold maxLen; omega) rfl, (fun x hx => by cases hx), hl⟩
theorem Pcs.add {w w' : World} {lo base : Nat} {v v' : Value} {P : List Pc} (h : Pcs w lo base v P) (x : Pc) (hB : Bytes w x.A x.D) (hc : x.D.length ≤ x.c) (hF : ∀ ad, x.A = some ad → Firm w lo ad.block)
    (ho : w'.ownsRow base 31 6 v' (P.length + 1) (P.flatMap Pc.cells ++ x.cells)) (hg : w.grownBy w' v.ownBlock) : Pcs w' lo base v' (P ++ [x]) := by
  have hk : ∀ k, Firm w lo k → k < w.heap.size → w'.heap[k]? = w.heap[k]? := fun k hf hl => hg.block k hl fun e => by
    obtain ⟨h1, cs, h2⟩ := own_block h.own e.symm
    have := h.lob
    rcases hf with hf | ⟨cs', f, hf⟩
    · omega
    · rw [h2] at hf; simp at hf
  have hd : ∀ y : Pc, (Bytes w y.A y.D ∧ y.D.length ≤ y.c ∧ ∀ ad, y.A = some ad → Firm w lo ad.block) → Bytes w' y.A y.D ∧ y.D.length ≤ y.c ∧ ∀ ad, y.A = some ad → Firm w' lo ad.block := fun y ⟨a, b, c⟩ =>
    ⟨a.of_block fun ad e hl => hk _ (c ad e) hl, b, fun ad e => by
      rcases c ad e with hl | ⟨cs, f, hh⟩
      · exact .inl hl
      · exact .inr ⟨cs, f, (hk _ (.inr ⟨cs, f, hh⟩) (lt_of_heap hh)).trans hh⟩⟩
  refine ⟨by simpa using ho, fun y hy => ?_, h.lob⟩
  rcases List.mem_append.mp hy with hy | hy
  · exact hd y (h.dat y hy)
  · obtain rfl := List.mem_singleton.mp hy
    exact hd y ⟨hB, hc, hF⟩
theorem Lx.grown {w w' : World} {l z b : Nat} {B : List Int} {ET : TypeId} {EA : Addr} {p s : Int} (h : Lx w l z b B ET EA p s) {row : Option Nat} (hg : w.grownBy w' row) (base : Nat) (hr : ∀ k, row = some k → base ≤ k) (hl : l < base) (hz : z < base) (hb : b < base) : Lx w' l z b B ET EA p s := by
  have hk : ∀ k, k < base → k < w.heap.size → w'.heap[k]? = w.heap[k]? := fun k h1 h2 => hg.block k h2 fun e => by have := hr k e.symm; omega
  obtain ⟨c, hc, hi⟩ := h.inp
  have h0 := h.eof
  refine ⟨(hk l hl (lt_of_heap h.lex)).trans h.lex, ⟨c, hc, (hk z hz (lt_of_heap hi)).trans hi⟩, fun i hi => (World.cell?_of_block (w := w) (hk b hb h.bl)).trans (h.bytes i hi), h.len, h.pos, h.lz, h.bz, (World.cell?_of_block (w := w) (hk 0 (by omega) (World.block_lt_of_cell? _ _ h0))).trans h0, h.z0⟩
theorem Rd.grown {w w' : World} {z : Nat} {A : Option Addr} {c : Nat} {T : List Int} {q : Int} {o : Bool} (h : Rd w z A c T q o) {row : Option Nat} (hg : w.grownBy w' row) (base : Nat) (hr : ∀ k, row = some k → base ≤ k) (hz : z < base) (hA : ∀ ad, A = some ad → ad.block < base) : Rd w' z A c T q o := by
  have hk : ∀ k, k < base → k < w.heap.size → w'.heap[k]? = w.heap[k]? := fun k h1 h2 => hg.block k h2 fun e => by have := hr k e.symm; omega
  exact ⟨(hk z hz (lt_of_heap h.blk)).trans h.blk, h.txt.of_block fun ad e hl => hk _ (hA ad e) hl, h.cap, h.az⟩
theorem Tryd.info31 : (Tryd.prog.info? 31).map (fun i => (i.zero, i.size, i.bytes)) = some (some (.agg #[.string ⟨#[]⟩, .slice none 0 0, .slice none 0 0, .slice none 0 0, .slice none 0 0, .string ⟨#[]⟩]), 6, 128) := by kernel_rfl
theorem six_new {w : World} {g j : Nat} {y : Array Value} {u : Value} {t : TypeId} (hg : w.heap.size = g) (hu : y.toList[j]? = some u) : (w.alloc (.cells y t)).cell? ((⟨g, 0, none⟩ : Addr).add j) = some u := by
  subst hg
  have : (⟨w.heap.size, 0, none⟩ : Addr).add j = ⟨w.heap.size, j, none⟩ := by unfold Addr.add; split <;> simp_all
  rw [this, cell_of_block (heap_new _ _), ← Array.getElem?_toList]
  exact hu
/-- A part of a text. -/
def subB (B : List Int) (lo hi : Int) : Option (List Int) := if 0 ≤ lo ∧ lo ≤ hi ∧ hi ≤ B.length then some ((B.drop lo.toNat).take (hi.toNat - lo.toNat)) else none
theorem slv_form {B S : List Int} {b : Nat} {lo hi : Int} (h : Hd (subB B lo hi = some S)) : ∃ A c, slv b lo hi = .slice A S.length c ∧ S.length ≤ c ∧ ∀ (w : World) (l z : Nat) (ET : TypeId) (EA : Addr) (p s : Int), Lx w l z b B ET EA p s → Bytes w A S := by
  have h := h.out
  unfold subB at h
  split at h
  · rename_i hb
    obtain rfl := Option.some.inj h
    have hl : ((B.drop lo.toNat).take (hi.toNat - lo.toNat)).length = hi.toNat - lo.toNat := by rw [List.length_take, List.length_drop]; omega
    by_cases he : hi.toNat = lo.toNat
    · refine ⟨some ⟨b, 0, none⟩, 0, ?_, by omega, fun w l z ET EA p s hx => ⟨by omega, fun h => by omega⟩⟩
      rw [hl]; unfold slv; rw [if_pos he, he, Nat.sub_self]
    · refine ⟨some ⟨b, lo.toNat, none⟩, hi.toNat - lo.toNat, ?_, by omega, fun w l z ET EA p s hx => ?_⟩
      · rw [hl]; unfold slv; rw [if_neg he]
      · have := sub_bytes (w := w) (b := b) (off := 0) hx.len (lo := lo) (hi := hi) (by omega) fun j hj => by rw [Nat.zero_add]; exact hx.bytes j hj
        rwa [Nat.zero_add] at this
  · cases h
end Go.Proofs.YteonakpgenkhkaaDoor
