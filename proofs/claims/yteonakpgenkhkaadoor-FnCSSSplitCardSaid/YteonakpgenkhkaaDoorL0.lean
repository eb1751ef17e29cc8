import Derived.Test.YteonakpgenkhkaaDoorProg
import Derived.WalkKit
import Derived.Deep.QuietTactic
import Derived.BigQuiet
import Derived.Deep.LoopGhost
import Derived.Deep.DeepCutAuto
import Derived.Deep.CutBlock
namespace Go.Proofs.YteonakpgenkhkaaDoor
open Go.RowKit

/-- A fact that the walk does not look into. -/
structure Hd (p : Prop) : Prop where mk :: (out : p)
def joinS {X V Y : Type} (o : X ⊕ V) (g : X → Option Y) (f : V → Option Y) : Option Y := match o with | .inl x => g x | .inr v => f v
def outS {X V : Type} (e : Option X) : Option (X ⊕ V) := e.map Sum.inl
section
variable {X V Y : Type}
theorem Hd.bind {m : Option X} {f : X → Option Y} {r : Y} (h : Hd (m.bind f = some r)) : ∃ a, Hd (m = some a) ∧ Hd (f a = some r) := by
  obtain ⟨a, h1, h2⟩ := Option.bind_eq_some_iff.mp h.out
  exact ⟨a, ⟨h1⟩, ⟨h2⟩⟩
theorem Hd.pos {c : Prop} [Decidable c] {x y : Option X} {r : Option X} (h : Hd ((if c then x else y) = r)) (hc : c) : Hd (x = r) := ⟨by rw [← h.out, if_pos hc]⟩
theorem Hd.neg {c : Prop} [Decidable c] {x y : Option X} {r : Option X} (h : Hd ((if c then x else y) = r)) (hc : ¬ c) : Hd (y = r) := ⟨by rw [← h.out, if_neg hc]⟩
theorem Hd.tt {x y : Option X} {r : Option X} {c : Prop} [Decidable c] (h : Hd ((if c then x else y) = r)) (hc : c := by trivial) : Hd (x = r) := h.pos hc
theorem Hd.ff {x y : Option X} {r : Option X} {c : Prop} [Decidable c] (h : Hd ((if c then x else y) = r)) (hc : ¬ c := by simp) : Hd (y = r) := h.neg hc
theorem Hd.p1 {a b : X} (h : Hd (some a = some b)) : a = b := Option.some.inj h.out
theorem Hd.no {a : X} {P : Prop} (h : Hd (none = some a)) : P := by cases h.out
theorem Hd.outS {e : Option X} {o : X ⊕ V} (h : Hd (outS e = some o)) : ∃ x, o = .inl x ∧ Hd (e = some x) := by
  have h := h.out
  cases e with
  | none => cases h
  | some x => exact ⟨x, (Option.some.inj h).symm, ⟨rfl⟩⟩
theorem Hd.inl {x R : X} {f : V → Option X} (h : Hd (joinS (.inl x) some f = some R)) {e : Option X} (h1 : Hd (e = some x)) : Hd (e = some R) := ⟨h1.out.trans h.out⟩
theorem Hd.inlS {x : X} {R : Y} {g : X → Option Y} {f : V → Option Y} (h : Hd (joinS (.inl x) g f = some R)) : Hd (g x = some R) := ⟨h.out⟩
theorem Hd.inrS {v : V} {R : Y} {g : X → Option Y} {f : V → Option Y} (h : Hd (joinS (.inr v) g f = some R)) : Hd (f v = some R) := ⟨h.out⟩
end
theorem Hd.p2 {A B : Type} {a a' : A} {b b' : B} (h : Hd (some (a, b) = some (a', b'))) : a = a' ∧ b = b' := by
  have h := Option.some.inj h.out; exact ⟨congrArg Prod.fst h, congrArg Prod.snd h⟩
theorem Hd.p3 {A B C : Type} {a a' : A} {b b' : B} {c c' : C} (h : Hd (some (a, b, c) = some (a', b', c'))) : a = a' ∧ b = b' ∧ c = c' := by
  have h := Option.some.inj h.out; exact ⟨congrArg (·.1) h, congrArg (·.2.1) h, congrArg (·.2.2) h⟩
theorem Hd.p4 {A B C D : Type} {a a' : A} {b b' : B} {c c' : C} {d d' : D} (h : Hd (some (a, b, c, d) = some (a', b', c', d'))) : a = a' ∧ b = b' ∧ c = c' ∧ d = d' := by
  have h := Option.some.inj h.out; exact ⟨congrArg (·.1) h, congrArg (·.2.1) h, congrArg (·.2.2.1) h, congrArg (·.2.2.2) h⟩

theorem cell_of_block {w : World} {g : Nat} {c : Array Value} {t : TypeId} {f : Nat × Nat} (h : w.heap[g]? = some (.cells c t f)) (j : Nat) : w.cell? ⟨g, j, none⟩ = c[j]? := by
  simp [World.cell?, h]
theorem frozen_of_block {w : World} {g : Nat} {c : Array Value} {t : TypeId} (h : w.heap[g]? = some (.cells c t (0, 0))) (j : Nat) : w.frozen? ⟨g, j, none⟩ = false := by
  simp [World.frozen?, h]
theorem heap_set_other {w : World} {g g' i : Nat} (u : Value) (h : g ≠ g') : (w.setCell ⟨g, i, none⟩ u).heap[g']? = w.heap[g']? := Below.heap_setCell _ _ _ _ (by simpa using h.symm)
theorem heap_set_same {w : World} {g i : Nat} {c : Array Value} {t : TypeId} {f : Nat × Nat} (u : Value) (h : w.heap[g]? = some (.cells c t f)) : (w.setCell ⟨g, i, none⟩ u).heap[g]? = some (.cells (c.setIfInBounds i u) t f) := by
  simp [World.setCell, Array.getElem?_modify, h]
theorem lt_of_heap {w : World} {g : Nat} {o : Obj} (h : w.heap[g]? = some o) : g < w.heap.size := (Array.getElem?_eq_some_iff.1 h).1

/-- Every block of w but z is in w' as it was. -/
structure Fr (z : Nat) (w w' : World) : Prop where
  os : w'.os = w.os
  tape : w'.tape = w.tape
  output : w'.output = w.output
  size : w.heap.size ≤ w'.heap.size
  block : ∀ k, k < w.heap.size → k ≠ z → w'.heap[k]? = w.heap[k]?
theorem Fr.refl (z : Nat) (w : World) : Fr z w w := ⟨rfl, rfl, rfl, Nat.le_refl _, fun _ _ _ => rfl⟩
theorem Fr.trans {z : Nat} {a b c : World} (h : Fr z a b) (k : Fr z b c) : Fr z a c :=
  ⟨k.os.trans h.os, k.tape.trans h.tape, k.output.trans h.output, Nat.le_trans h.size k.size, fun i hi hz => (k.block i (Nat.lt_of_lt_of_le hi h.size) hz).trans (h.block i hi hz)⟩
theorem Fr.drew {z : Nat} {a w : World} (h : Fr z a w) : Fr z a w.drew := ⟨h.os, h.tape, h.output, h.size, h.block⟩
theorem Fr.drewN {z : Nat} {a w : World} (h : Fr z a w) (n : Nat) : Fr z a (w.drewN n) := ⟨h.os, h.tape, h.output, h.size, h.block⟩
theorem Fr.alloc {z : Nat} {a w : World} (h : Fr z a w) (o : Obj) : Fr z a (w.alloc o) :=
  h.trans ⟨rfl, rfl, rfl, by simp, fun k hk _ => Below.heap_alloc _ _ _ hk⟩
theorem Fr.set {z : Nat} {a w : World} (h : Fr z a w) (i : Nat) (u : Value) : Fr z a (w.setCell ⟨z, i, none⟩ u) :=
  h.trans ⟨rfl, rfl, rfl, by simp, fun k _ hz => heap_set_other u (fun e => hz e.symm)⟩

/-- The lexer at l over the input at z, whose bytes (with the zero behind them) are B; the selection is from s to p. -/
structure Lx (w : World) (l z b : Nat) (B : List Int) (ET : TypeId) (EA : Addr) (p s : Int) : Prop where
  lex : w.heap[l]? = some (.cells #[.pointer (some ⟨z, 0, none⟩)] 58 (0, 0))
  inp : ∃ c, B.length ≤ c ∧ w.heap[z]? = some (.cells #[.slice (some ⟨b, 0, none⟩) B.length c, .int .i64 p, .int .i64 s, .nilIface, .nilFunc] 62 (0, 0))
  bytes : ∀ i, i < B.length → w.cell? ⟨b, i, none⟩ = some (.int .u8 (B.getD i 0))
  len : B.length ≤ 140737488355328
  pos : 0 < B.length
  lz : l ≠ z
  bz : b ≠ z
  eof : w.cell? ⟨0, 0, none⟩ = some (.iface ET (.pointer (some EA)))
  z0 : z ≠ 0

theorem Lx.bl {w : World} {l z b : Nat} {B : List Int} {ET : TypeId} {EA : Addr} {p s : Int} (h : Lx w l z b B ET EA p s) : b < w.heap.size := by
  have := h.bytes 0 h.pos
  exact World.block_lt_of_cell? _ _ this
theorem Lx.fr {w w' : World} {l z b : Nat} {B : List Int} {ET : TypeId} {EA : Addr} {p s p' s' : Int} (h : Lx w l z b B ET EA p s) (k : Fr z w w') (hz : ∀ c : Nat, w.heap[z]? = some (.cells #[.slice (some ⟨b, 0, none⟩) B.length c, .int .i64 p, .int .i64 s, .nilIface, .nilFunc] 62 (0, 0)) → w'.heap[z]? = some (.cells #[.slice (some ⟨b, 0, none⟩) B.length c, .int .i64 p', .int .i64 s', .nilIface, .nilFunc] 62 (0, 0))) : Lx w' l z b B ET EA p' s' := by
  obtain ⟨c, hc, hi⟩ := h.inp
  have h0 := h.eof
  exact ⟨(k.block l (lt_of_heap h.lex) h.lz).trans h.lex, ⟨c, hc, hz c hi⟩, fun i hi => (World.cell?_of_block (w := w) (k.block b h.bl h.bz)).trans (h.bytes i hi), h.len, h.pos, h.lz, h.bz,
    (World.cell?_of_block (w := w) (k.block 0 (World.block_lt_of_cell? _ _ h0) h.z0.symm)).trans h0, h.z0⟩
theorem Lx.setPos {w : World} {l z b : Nat} {B : List Int} {ET : TypeId} {EA : Addr} {p s : Int} (h : Lx w l z b B ET EA p s) (q : Int) : Lx (w.setCell ⟨z, 1, none⟩ (.int .i64 q)) l z b B ET EA q s :=
  h.fr ((Fr.refl z w).set 1 _) fun _ hz => by simpa using heap_set_same (i := 1) (.int .i64 q) hz
theorem Lx.setStart {w : World} {l z b : Nat} {B : List Int} {ET : TypeId} {EA : Addr} {p s : Int} (h : Lx w l z b B ET EA p s) (q : Int) : Lx (w.setCell ⟨z, 2, none⟩ (.int .i64 q)) l z b B ET EA p q :=
  h.fr ((Fr.refl z w).set 2 _) fun _ hz => by simpa using heap_set_same (i := 2) (.int .i64 q) hz
theorem Lx.drewN {w : World} {l z b : Nat} {B : List Int} {ET : TypeId} {EA : Addr} {p s : Int} (h : Lx w l z b B ET EA p s) (n : Nat) : Lx (w.drewN n) l z b B ET EA p s := h.fr ((Fr.refl z w).drewN n) fun _ h => h
theorem Lx.drew {w : World} {l z b : Nat} {B : List Int} {ET : TypeId} {EA : Addr} {p s : Int} (h : Lx w l z b B ET EA p s) : Lx w.drew l z b B ET EA p s := h.fr ((Fr.refl z w).drew) fun _ h => h
theorem Lx.alloc {w : World} {l z b : Nat} {B : List Int} {ET : TypeId} {EA : Addr} {p s : Int} (h : Lx w l z b B ET EA p s) (o : Obj) : Lx (w.alloc o) l z b B ET EA p s :=
  h.fr ((Fr.refl z w).alloc o) fun _ hz => (Below.heap_alloc _ _ _ (lt_of_heap hz)).trans hz
theorem Lx.cl {w : World} {l z b : Nat} {B : List Int} {ET : TypeId} {EA : Addr} {p s : Int} (h : Lx w l z b B ET EA p s) : w.cell? ⟨l, 0, none⟩ = some (.pointer (some ⟨z, 0, none⟩)) := (cell_of_block h.lex 0).trans rfl

def peek (B : List Int) (q : Int) : Option Int := if 0 ≤ q ∧ q < B.length then some (B.getD q.toNat 0) else none
def pk (B : List Int) (p n : Int) : Option Int := peek B (wrap64 (n + p))
def mv (p n : Int) : Int := wrap64 (p + n)
def ps (p s : Int) : Int := wrap64 (p - s)
def rwd (s m : Int) : Int := wrap64 (s + m)
def atEnd (B : List Int) (p n : Int) : Bool := decide (wrap64 ((B.length : Int) - 1) ≤ wrap64 (p + n))

theorem Peek_calls {w : World} {l z b : Nat} {B : List Int} {ET : TypeId} {EA : Addr} {p s : Int} (h : Lx w l z b B ET EA p s) (n c : Int) (hc : Hd (pk B p n = some c)) :
    Calls Tryd.prog 54 #[.pointer (some ⟨z, 0, none⟩), .int .i64 n] w fun e w' => e = .returned (.int .u8 c) ∧ w = w' := by
  obtain ⟨cp, hcp, hz⟩ := h.inp
  have h0 := (cell_of_block hz 0).trans rfl
  have h1 := (cell_of_block hz 1).trans rfl
  have hc := hc.out
  unfold pk peek at hc
  split at hc
  · rename_i hq
    obtain ⟨q0, q1⟩ := hq
    have hb := h.bytes (wrap64 (n + p)).toNat (by omega)
    simp only [Option.some.injEq] at hc
    rw [hc] at hb
    clear hc hz h
    go_enter Tryd.func54, Tryd.ntmps54
    go_wp2
    go_ret
    exact ⟨rfl, rfl⟩
  · simp at hc

theorem Move_calls {w : World} {l z b : Nat} {B : List Int} {ET : TypeId} {EA : Addr} {p s : Int} (h : Lx w l z b B ET EA p s) (n : Int) :
    Calls Tryd.prog 55 #[.pointer (some ⟨z, 0, none⟩), .int .i64 n] w fun e w' => e = .returned (.tuple #[]) ∧ Lx w' l z b B ET EA (mv p n) s ∧ Fr z w w' := by
  obtain ⟨cp, hcp, hz⟩ := h.inp
  have h1 := (cell_of_block hz 1).trans rfl
  have f1 := frozen_of_block hz 1
  clear hz
  go_enter Tryd.func55, Tryd.ntmps55
  go_wp2
  go_end0
  exact ⟨rfl, h.setPos _, (Fr.refl z w).set _ _⟩
theorem Rewind_calls {w : World} {l z b : Nat} {B : List Int} {ET : TypeId} {EA : Addr} {p s : Int} (h : Lx w l z b B ET EA p s) (m : Int) :
    Calls Tryd.prog 76 #[.pointer (some ⟨z, 0, none⟩), .int .i64 m] w fun e w' => e = .returned (.tuple #[]) ∧ Lx w' l z b B ET EA (rwd s m) s ∧ Fr z w w' := by
  obtain ⟨cp, hcp, hz⟩ := h.inp
  have h1 := (cell_of_block hz 1).trans rfl
  have h2 := (cell_of_block hz 2).trans rfl
  have f1 := frozen_of_block hz 1
  clear hz
  go_enter Tryd.func76, Tryd.ntmps76
  go_wp2
  go_end0
  exact ⟨rfl, h.setPos _, (Fr.refl z w).set _ _⟩
theorem Pos_calls {w : World} {l z b : Nat} {B : List Int} {ET : TypeId} {EA : Addr} {p s : Int} (h : Lx w l z b B ET EA p s) :
    Calls Tryd.prog 39 #[.pointer (some ⟨z, 0, none⟩)] w fun e w' => e = .returned (.int .i64 (ps p s)) ∧ Lx w' l z b B ET EA p s ∧ Fr z w w' := by
  obtain ⟨cp, hcp, hz⟩ := h.inp
  have h1 := (cell_of_block hz 1).trans rfl
  have h2 := (cell_of_block hz 2).trans rfl
  clear hz
  go_enter Tryd.func39, Tryd.ntmps39
  go_wp2
  go_quiet (fail)
  go_wp2
  go_ret
  exact ⟨rfl, h.drewN _, (Fr.refl z w).drewN _⟩
theorem PeekErr_end {w : World} {l z b : Nat} {B : List Int} {ET : TypeId} {EA : Addr} {p s : Int} (h : Lx w l z b B ET EA p s) (n : Int) (hn : atEnd B p n = true) :
    Calls Tryd.prog 90 #[.pointer (some ⟨z, 0, none⟩), .int .i64 n] w fun e w' => e = .returned (.iface ET (.pointer (some EA))) ∧ Lx w' l z b B ET EA p s ∧ Fr z w w' := by
  obtain ⟨cp, hcp, hz⟩ := h.inp
  have h0 := (cell_of_block hz 0).trans rfl
  have h1 := (cell_of_block hz 1).trans rfl
  have h3 := (cell_of_block hz 3).trans rfl
  have h00 := h.eof
  unfold atEnd at hn
  clear hz
  go_enter Tryd.func90, Tryd.ntmps90
  go_wp2
  go_quiet (fail)
  go_wp2
  go_ret
  exact ⟨rfl, h.drewN _, (Fr.refl z w).drewN _⟩
theorem PeekErr_not {w : World} {l z b : Nat} {B : List Int} {ET : TypeId} {EA : Addr} {p s : Int} (h : Lx w l z b B ET EA p s) (n : Int) (hn : atEnd B p n = false) :
    Calls Tryd.prog 90 #[.pointer (some ⟨z, 0, none⟩), .int .i64 n] w fun e w' => e = .returned .nilIface ∧ Lx w' l z b B ET EA p s ∧ Fr z w w' := by
  obtain ⟨cp, hcp, hz⟩ := h.inp
  have h0 := (cell_of_block hz 0).trans rfl
  have h1 := (cell_of_block hz 1).trans rfl
  have h3 := (cell_of_block hz 3).trans rfl
  unfold atEnd at hn
  clear hz
  go_enter Tryd.func90, Tryd.ntmps90
  go_wp2
  go_quiet (fail)
  go_wp2
  go_ret
  exact ⟨rfl, h.drewN _, (Fr.refl z w).drewN _⟩
theorem Err_end {w : World} {l z b : Nat} {B : List Int} {ET : TypeId} {EA : Addr} {p s : Int} (h : Lx w l z b B ET EA p s) (hn : atEnd B p 0 = true) :
    Calls Tryd.prog 71 #[.pointer (some ⟨z, 0, none⟩)] w fun e w' => e = .returned (.iface ET (.pointer (some EA))) ∧ Lx w' l z b B ET EA p s ∧ Fr z w w' := by
  have H := Hd.mk hn
  clear hn
  go_enter Tryd.func71, Tryd.ntmps71
  go_wp2_with fail
  refine (PeekErr_end h 0 H.out).mono ?_
  rintro e w1 ⟨rfl, h1, f1⟩
  go_wp2_with fail
  go_ret
  exact ⟨rfl, h1, f1⟩
theorem Err_not {w : World} {l z b : Nat} {B : List Int} {ET : TypeId} {EA : Addr} {p s : Int} (h : Lx w l z b B ET EA p s) (hn : atEnd B p 0 = false) :
    Calls Tryd.prog 71 #[.pointer (some ⟨z, 0, none⟩)] w fun e w' => e = .returned .nilIface ∧ Lx w' l z b B ET EA p s ∧ Fr z w w' := by
  have H := Hd.mk hn
  clear hn
  go_enter Tryd.func71, Tryd.ntmps71
  go_wp2_with fail
  refine (PeekErr_not h 0 H.out).mono ?_
  rintro e w1 ⟨rfl, h1, f1⟩
  go_wp2_with fail
  go_ret
  exact ⟨rfl, h1, f1⟩
end Go.Proofs.YteonakpgenkhkaaDoor
