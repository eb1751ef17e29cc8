import Derived.Test.YtfcedenofbefcaaGreatDoorProg
import Derived.WalkKit
import Derived.Deep.QuietTactic
import Derived.BigQuiet
import Derived.Deep.LoopGhost
import Derived.Deep.DeepCutAuto
import Derived.Deep.CutBlock
namespace Go.Proofs.YtfcedenofbefcaaGreatDoor
open Go.RowKit

/-- A fact that the walk does not look into. -/
structure Hd (p : Prop) : Prop where mk :: (out : p)
def joinS {X V Y : Type} (o : X ⊕ V) (g : X → Option Y) (f : V → Option Y) : Option Y := match o with | .inl x => g x | .inr v => f v
def outS {X V : Type} (e : Option X) : Option (X ⊕ V) := e.map Sum.inl
section
variable {X V Y : Type}
theorem Hd.bind {m : Option X} {f : X → Option Y} {r : Y} (h : Hd (m.bind f = some r)) : ∃ a, Hd (m = some a) ∧ Hd (f a = some r) := by
  obtain ⟨a, h1, h2⟩ := Option.bind_eq_some_iff.mp h.out
  exact ⟨a, ⟨h1⟩, ⟨h2⟩⟩
theorem Hd.pos {c : Prop} [Decidable c] {x y : Option X} {r : Option X} (h : Hd ((if c then x else y) = r)) (hc : c) : Hd (x = r) := ⟨by rw [← h.out, if_pos hc]⟩
theorem Hd.neg {c : Prop} [Decidable c] {x y : Option X} {r : Option X} (h : Hd ((if c then x else y) = r)) (hc : ¬ c) : Hd (y = r) := ⟨by rw [← h.out, if_neg hc]⟩
theorem Hd.tt {x y : Option X} {r : Option X} {c : Prop} [Decidable c] (h : Hd ((if c then x else y) = r)) (hc : c := by trivial) : Hd (x = r) := h.pos hc
theorem Hd.ff {x y : Option X} {r : Option X} {c : Prop} [Decidable c] (h : Hd ((if c then x else y) = r)) (hc : ¬ c := by simp) : Hd (y = r) := h.neg hc
theorem Hd.p1 {a b : X} (h : Hd (some a = some b)) : a = b := Option.some.inj h.out
theorem Hd.no {a : X} {P : Prop} (h : Hd (none = some a)) : P := by cases h.out
theorem Hd.outS {e : Option X} {o : X ⊕ V} (h : Hd (outS e = some o)) : ∃ x, o = .inl x ∧ Hd (e = some x) := by
  have h := h.out
  cases e with
  | none => cases h
  | some x => exact ⟨x, (Option.some.inj h).symm, ⟨rfl⟩⟩
theorem Hd.inl {x R : X} {f : V → Option X} (h : Hd (joinS (.inl x) some f = some R)) {e : Option X} (h1 : Hd (e = some x)) : Hd (e = some R) := ⟨h1.out.trans h.out⟩
theorem Hd.inlS {x : X} {R : Y} {g : X → Option Y} {f : V → Option Y} (h : Hd (joinS (.inl x) g f = some R)) : Hd (g x = some R) := ⟨h.out⟩
theorem Hd.inrS {v : V} {R : Y} {g : X → Option Y} {f : V → Option Y} (h : Hd (joinS (.inr v) g f = some R)) : Hd (f v = some R) := ⟨h.out⟩
end
theorem Hd.p2 {A B : Type} {a a' : A} {b b' : B} (h : Hd (some (a, b) = some (a', b'))) : a = a' ∧ b = b' := by
  have h := Option.some.inj h.out; exact ⟨congrArg Prod.fst h, congrArg Prod.snd h⟩
theorem Hd.p3 {A B C : Type} {a a' : A} {b b' : B} {c c' : C} (h : Hd (some (a, b, c) = some (a', b', c'))) : a = a' ∧ b = b' ∧ c = c' := by
  have h := Option.some.inj h.out; exact ⟨congrArg (·.1) h, congrArg (·.2.1) h, congrArg (·.2.2) h⟩
theorem Hd.p4 {A B C D : Type} {a a' : A} {b b' : B} {c c' : C} {d d' : D} (h : Hd (some (a, b, c, d) = some (a', b', c', d'))) : a = a' ∧ b = b' ∧ c = c' ∧ d = d' := by
  have h := Option.some.inj h.out; exact ⟨congrArg (·.1) h, congrArg (·.2.1) h, congrArg (·.2.2.1) h, congrArg (·.2.2.2) h⟩

theorem cell_of_block {w : World} {g : Nat} {c : Array Value} {t : TypeId} {f : Nat × Nat} (h : w.heap[g]? = some (.cells c t f)) (j : Nat) : w.cell? ⟨g, j, none⟩ = c[j]? := by
  simp [World.cell?, h]
theorem frozen_of_block {w : World} {g : Nat} {c : Array Value} {t : TypeId} (h : w.heap[g]? = some (.cells c t (0, 0))) (j : Nat) : w.frozen? ⟨g, j, none⟩ = false := by
  simp [World.frozen?, h]
theorem heap_set_other {w : World} {g g' i : Nat} (u : Value) (h : g ≠ g') : (w.setCell ⟨g, i, none⟩ u).heap[g']? = w.heap[g']? := Below.heap_setCell _ _ _ _ (by simpa using h.symm)
theorem heap_set_same {w : World} {g i : Nat} {c : Array Value} {t : TypeId} {f : Nat × Nat} (u : Value) (h : w.heap[g]? = some (.cells c t f)) : (w.setCell ⟨g, i, none⟩ u).heap[g]? = some (.cells (c.setIfInBounds i u) t f) := by
  simp [World.setCell, Array.getElem?_modify, h]
theorem lt_of_heap {w : World} {g : Nat} {o : Obj} (h : w.heap[g]? = some o) : g < w.heap.size := (Array.getElem?_eq_some_iff.1 h).1

/-- Every block of w but l and z is in w' as it was. -/
structure Fr (l z : Nat) (w w' : World) : Prop where
  os : w'.os = w.os
  tape : w'.tape = w.tape
  output : w'.output = w.output
  size : w.heap.size ≤ w'.heap.size
  block : ∀ k, k < w.heap.size → k ≠ l → k ≠ z → w'.heap[k]? = w.heap[k]?
theorem Fr.refl (l z : Nat) (w : World) : Fr l z w w := ⟨rfl, rfl, rfl, Nat.le_refl _, fun _ _ _ _ => rfl⟩
theorem Fr.trans {l z : Nat} {a b c : World} (h : Fr l z a b) (k : Fr l z b c) : Fr l z a c :=
  ⟨k.os.trans h.os, k.tape.trans h.tape, k.output.trans h.output, Nat.le_trans h.size k.size, fun i hi hl hz => (k.block i (Nat.lt_of_lt_of_le hi h.size) hl hz).trans (h.block i hi hl hz)⟩
theorem Fr.drew {l z : Nat} {a w : World} (h : Fr l z a w) : Fr l z a w.drew := ⟨h.os, h.tape, h.output, h.size, h.block⟩
theorem Fr.drewN {l z : Nat} {a w : World} (h : Fr l z a w) (n : Nat) : Fr l z a (w.drewN n) := ⟨h.os, h.tape, h.output, h.size, h.block⟩
theorem Fr.alloc {l z : Nat} {a w : World} (h : Fr l z a w) (o : Obj) : Fr l z a (w.alloc o) :=
  h.trans ⟨rfl, rfl, rfl, by simp, fun k hk _ _ => Below.heap_alloc _ _ _ hk⟩
theorem Fr.set {l z : Nat} {a w : World} (h : Fr l z a w) (i : Nat) (u : Value) : Fr l z a (w.setCell ⟨z, i, none⟩ u) :=
  h.trans ⟨rfl, rfl, rfl, by simp, fun k _ _ hz => heap_set_other u (fun e => hz e.symm)⟩
theorem Fr.setl {l z : Nat} {a w : World} (h : Fr l z a w) (i : Nat) (u : Value) : Fr l z a (w.setCell ⟨l, i, none⟩ u) :=
  h.trans ⟨rfl, rfl, rfl, by simp, fun k _ hl _ => heap_set_other u (fun e => hl e.symm)⟩
theorem Fr.wide {z : Nat} {a w : World} (h : Fr z z a w) (l : Nat) : Fr l z a w := ⟨h.os, h.tape, h.output, h.size, fun k hk _ hz => h.block k hk hz hz⟩
theorem Fr.below {l z : Nat} {a w : World} (h : Below a.heap.size a w) : Fr l z a w := ⟨h.os, h.tape, h.output, h.size, fun k hk _ _ => h.block k hk⟩

/-- The input at z, whose bytes (with the zero behind them) are B; the selection is from s to p. -/
structure In (w : World) (z b : Nat) (B : List Int) (ET : TypeId) (EA : Addr) (p s : Int) : Prop where
  inp : ∃ c, B.length ≤ c ∧ w.heap[z]? = some (.cells #[.slice (some ⟨b, 0, none⟩) B.length c, .int .i64 p, .int .i64 s, .nilIface, .nilFunc] 83 (0, 0))
  bytes : ∀ i, i < B.length → w.cell? ⟨b, i, none⟩ = some (.int .u8 (B.getD i 0))
  len : B.length ≤ 140737488355328
  pos : 0 < B.length
  bz : b ≠ z
  eof : w.cell? ⟨0, 0, none⟩ = some (.iface ET (.pointer (some EA)))
  z0 : z ≠ 0
theorem In.bl {w : World} {z b : Nat} {B : List Int} {ET : TypeId} {EA : Addr} {p s : Int} (h : In w z b B ET EA p s) : b < w.heap.size := by
  have := h.bytes 0 h.pos
  exact World.block_lt_of_cell? _ _ this
theorem In.fr2 {w w' : World} {l z b : Nat} {B : List Int} {ET : TypeId} {EA : Addr} {p s p' s' : Int} (h : In w z b B ET EA p s) (k : Fr l z w w') (hlb : l ≠ b) (hl0 : l ≠ 0) (hz : ∀ c : Nat, w.heap[z]? = some (.cells #[.slice (some ⟨b, 0, none⟩) B.length c, .int .i64 p, .int .i64 s, .nilIface, .nilFunc] 83 (0, 0)) → w'.heap[z]? = some (.cells #[.slice (some ⟨b, 0, none⟩) B.length c, .int .i64 p', .int .i64 s', .nilIface, .nilFunc] 83 (0, 0))) : In w' z b B ET EA p' s' := by
  obtain ⟨c, hc, hi⟩ := h.inp
  have h0 := h.eof
  exact ⟨⟨c, hc, hz c hi⟩, fun i hi => (World.cell?_of_block (w := w) (k.block b h.bl hlb.symm h.bz)).trans (h.bytes i hi), h.len, h.pos, h.bz,
    (World.cell?_of_block (w := w) (k.block 0 (World.block_lt_of_cell? _ _ h0) hl0.symm h.z0.symm)).trans h0, h.z0⟩
theorem In.fr {w w' : World} {z b : Nat} {B : List Int} {ET : TypeId} {EA : Addr} {p s p' s' : Int} (h : In w z b B ET EA p s) (k : Fr z z w w') (hz : ∀ c : Nat, w.heap[z]? = some (.cells #[.slice (some ⟨b, 0, none⟩) B.length c, .int .i64 p, .int .i64 s, .nilIface, .nilFunc] 83 (0, 0)) → w'.heap[z]? = some (.cells #[.slice (some ⟨b, 0, none⟩) B.length c, .int .i64 p', .int .i64 s', .nilIface, .nilFunc] 83 (0, 0))) : In w' z b B ET EA p' s' :=
  h.fr2 k (fun e => h.bz e.symm) h.z0 hz
theorem In.setPos {w : World} {z b : Nat} {B : List Int} {ET : TypeId} {EA : Addr} {p s : Int} (h : In w z b B ET EA p s) (q : Int) : In (w.setCell ⟨z, 1, none⟩ (.int .i64 q)) z b B ET EA q s :=
  h.fr ((Fr.refl z z w).set 1 _) fun _ hz => by simpa using heap_set_same (i := 1) (.int .i64 q) hz
theorem In.setStart {w : World} {z b : Nat} {B : List Int} {ET : TypeId} {EA : Addr} {p s : Int} (h : In w z b B ET EA p s) (q : Int) : In (w.setCell ⟨z, 2, none⟩ (.int .i64 q)) z b B ET EA p q :=
  h.fr ((Fr.refl z z w).set 2 _) fun _ hz => by simpa using heap_set_same (i := 2) (.int .i64 q) hz
theorem In.drewN {w : World} {z b : Nat} {B : List Int} {ET : TypeId} {EA : Addr} {p s : Int} (h : In w z b B ET EA p s) (n : Nat) : In (w.drewN n) z b B ET EA p s := h.fr ((Fr.refl z z w).drewN n) fun _ h => h
theorem In.drew {w : World} {z b : Nat} {B : List Int} {ET : TypeId} {EA : Addr} {p s : Int} (h : In w z b B ET EA p s) : In w.drew z b B ET EA p s := h.fr ((Fr.refl z z w).drew) fun _ h => h
theorem In.alloc {w : World} {z b : Nat} {B : List Int} {ET : TypeId} {EA : Addr} {p s : Int} (h : In w z b B ET EA p s) (o : Obj) : In (w.alloc o) z b B ET EA p s :=
  h.fr ((Fr.refl z z w).alloc o) fun _ hz => (Below.heap_alloc _ _ _ (lt_of_heap hz)).trans hz

def peek (B : List Int) (q : Int) : Option Int := if 0 ≤ q ∧ q < B.length then some (B.getD q.toNat 0) else none
def pk (B : List Int) (p n : Int) : Option Int := peek B (wrap64 (n + p))
def mv (p n : Int) : Int := wrap64 (p + n)
def ps (p s : Int) : Int := wrap64 (p - s)
def rwd (s m : Int) : Int := wrap64 (s + m)
def atEnd (B : List Int) (p n : Int) : Bool := decide (wrap64 ((B.length : Int) - 1) ≤ wrap64 (p + n))

theorem Peek_calls {w : World} {z b : Nat} {B : List Int} {ET : TypeId} {EA : Addr} {p s : Int} (h : In w z b B ET EA p s) (n c : Int) (hc : Hd (pk B p n = some c)) :
    Calls Tryz.prog 55 #[.pointer (some ⟨z, 0, none⟩), .int .i64 n] w fun e w' => e = .returned (.int .u8 c) ∧ w = w' := by
  obtain ⟨cp, hcp, hz⟩ := h.inp
  have h0 := (cell_of_block hz 0).trans rfl
  have h1 := (cell_of_block hz 1).trans rfl
  have hc := hc.out
  unfold pk peek at hc
  split at hc
  · rename_i hq
    obtain ⟨q0, q1⟩ := hq
    have hb := h.bytes (wrap64 (n + p)).toNat (by omega)
    simp only [Option.some.injEq] at hc
    rw [hc] at hb
    clear hc hz h
    go_enter Tryz.func55, Tryz.ntmps55
    go_wp2
    go_ret
    exact ⟨rfl, rfl⟩
  · simp at hc

theorem Move_calls {w : World} {z b : Nat} {B : List Int} {ET : TypeId} {EA : Addr} {p s : Int} (h : In w z b B ET EA p s) (n : Int) :
    Calls Tryz.prog 56 #[.pointer (some ⟨z, 0, none⟩), .int .i64 n] w fun e w' => e = .returned (.tuple #[]) ∧ In w' z b B ET EA (mv p n) s ∧ Fr z z w w' := by
  obtain ⟨cp, hcp, hz⟩ := h.inp
  have h1 := (cell_of_block hz 1).trans rfl
  have f1 := frozen_of_block hz 1
  clear hz
  go_enter Tryz.func56, Tryz.ntmps56
  go_wp2
  go_end0
  exact ⟨rfl, h.setPos _, (Fr.refl z z w).set _ _⟩
theorem Rewind_calls {w : World} {z b : Nat} {B : List Int} {ET : TypeId} {EA : Addr} {p s : Int} (h : In w z b B ET EA p s) (m : Int) :
    Calls Tryz.prog 89 #[.pointer (some ⟨z, 0, none⟩), .int .i64 m] w fun e w' => e = .returned (.tuple #[]) ∧ In w' z b B ET EA (rwd s m) s ∧ Fr z z w w' := by
  obtain ⟨cp, hcp, hz⟩ := h.inp
  have h1 := (cell_of_block hz 1).trans rfl
  have h2 := (cell_of_block hz 2).trans rfl
  have f1 := frozen_of_block hz 1
  clear hz
  go_enter Tryz.func89, Tryz.ntmps89
  go_wp2
  go_end0
  exact ⟨rfl, h.setPos _, (Fr.refl z z w).set _ _⟩
theorem Pos_calls {w : World} {z b : Nat} {B : List Int} {ET : TypeId} {EA : Addr} {p s : Int} (h : In w z b B ET EA p s) :
    Calls Tryz.prog 62 #[.pointer (some ⟨z, 0, none⟩)] w fun e w' => e = .returned (.int .i64 (ps p s)) ∧ In w' z b B ET EA p s ∧ Fr z z w w' := by
  obtain ⟨cp, hcp, hz⟩ := h.inp
  have h1 := (cell_of_block hz 1).trans rfl
  have h2 := (cell_of_block hz 2).trans rfl
  clear hz
  go_enter Tryz.func62, Tryz.ntmps62
  go_wp2
  go_quiet (fail)
  go_wp2
  go_ret
  exact ⟨rfl, h.drewN _, (Fr.refl z z w).drewN _⟩
theorem PeekErr_end {w : World} {z b : Nat} {B : List Int} {ET : TypeId} {EA : Addr} {p s : Int} (h : In w z b B ET EA p s) (n : Int) (hn : atEnd B p n = true) :
    Calls Tryz.prog 74 #[.pointer (some ⟨z, 0, none⟩), .int .i64 n] w fun e w' => e = .returned (.iface ET (.pointer (some EA))) ∧ In w' z b B ET EA p s ∧ Fr z z w w' := by
  obtain ⟨cp, hcp, hz⟩ := h.inp
  have h0 := (cell_of_block hz 0).trans rfl
  have h1 := (cell_of_block hz 1).trans rfl
  have h3 := (cell_of_block hz 3).trans rfl
  have h00 := h.eof
  unfold atEnd at hn
  clear hz
  go_enter Tryz.func74, Tryz.ntmps74
  go_wp2
  go_quiet (fail)
  go_wp2
  go_ret
  exact ⟨rfl, h.drewN _, (Fr.refl z z w).drewN _⟩
theorem PeekErr_not {w : World} {z b : Nat} {B : List Int} {ET : TypeId} {EA : Addr} {p s : Int} (h : In w z b B ET EA p s) (n : Int) (hn : atEnd B p n = false) :
    Calls Tryz.prog 74 #[.pointer (some ⟨z, 0, none⟩), .int .i64 n] w fun e w' => e = .returned .nilIface ∧ In w' z b B ET EA p s ∧ Fr z z w w' := by
  obtain ⟨cp, hcp, hz⟩ := h.inp
  have h0 := (cell_of_block hz 0).trans rfl
  have h1 := (cell_of_block hz 1).trans rfl
  have h3 := (cell_of_block hz 3).trans rfl
  unfold atEnd at hn
  clear hz
  go_enter Tryz.func74, Tryz.ntmps74
  go_wp2
  go_quiet (fail)
  go_wp2
  go_ret
  exact ⟨rfl, h.drewN _, (Fr.refl z z w).drewN _⟩
theorem Err_end {w : World} {z b : Nat} {B : List Int} {ET : TypeId} {EA : Addr} {p s : Int} (h : In w z b B ET EA p s) (hn : atEnd B p 0 = true) :
    Calls Tryz.prog 57 #[.pointer (some ⟨z, 0, none⟩)] w fun e w' => e = .returned (.iface ET (.pointer (some EA))) ∧ In w' z b B ET EA p s ∧ Fr z z w w' := by
  have H := Hd.mk hn
  clear hn
  go_enter Tryz.func57, Tryz.ntmps57
  go_wp2_with fail
  refine (PeekErr_end h 0 H.out).mono ?_
  rintro e w1 ⟨rfl, h1, f1⟩
  go_wp2_with fail
  go_ret
  exact ⟨rfl, h1, f1⟩
theorem Err_not {w : World} {z b : Nat} {B : List Int} {ET : TypeId} {EA : Addr} {p s : Int} (h : In w z b B ET EA p s) (hn : atEnd B p 0 = false) :
    Calls Tryz.prog 57 #[.pointer (some ⟨z, 0, none⟩)] w fun e w' => e = .returned .nilIface ∧ In w' z b B ET EA p s ∧ Fr z z w w' := by
  have H := Hd.mk hn
  clear hn
  go_enter Tryz.func57, Tryz.ntmps57
  go_wp2_with fail
  refine (PeekErr_not h 0 H.out).mono ?_
  rintro e w1 ⟨rfl, h1, f1⟩
  go_wp2_with fail
  go_ret
  exact ⟨rfl, h1, f1⟩
def slv (b : Nat) (lo hi : Int) : Value := if hi.toNat = lo.toNat then .slice (some ⟨b, 0, none⟩) 0 0 else .slice (some ⟨b, lo.toNat, none⟩) (hi.toNat - lo.toNat) (hi.toNat - lo.toNat)
def sel (B : List Int) (p s : Int) : Option Unit := if 0 ≤ s ∧ s ≤ p ∧ p ≤ B.length then some () else none
theorem sel_of {B : List Int} {p s : Int} {u : Unit} (h : Hd (sel B p s = some u)) : 0 ≤ s ∧ s ≤ p ∧ p ≤ B.length := by
  have h := h.out
  unfold sel at h
  split at h
  · assumption
  · cases h
theorem Lexeme_calls {w : World} {z b : Nat} {B : List Int} {ET : TypeId} {EA : Addr} {p s : Int} (h : In w z b B ET EA p s) (u : Unit) (hu : Hd (sel B p s = some u)) :
    Calls Tryz.prog 88 #[.pointer (some ⟨z, 0, none⟩)] w fun e w' => e = .returned (slv b s p) ∧ In w' z b B ET EA p s ∧ Fr z z w w' := by
  obtain ⟨hs, hsp, hp⟩ := sel_of hu
  obtain ⟨cp, hcp, hz⟩ := h.inp
  have h0 := (cell_of_block hz 0).trans rfl
  have h1 := (cell_of_block hz 1).trans rfl
  have h2 := (cell_of_block hz 2).trans rfl
  have hl := h.len
  clear hz
  unfold slv
  by_cases he : p.toNat = s.toNat
  all_goals
    simp only [he, if_true, if_false]
    go_enter Tryz.func88, Tryz.ntmps88
    go_wp2
    go_quiet (fail)
    go_wp2
    go_ret
    exact ⟨rfl, h.drewN _, (Fr.refl z z w).drewN _⟩
theorem Shift_calls {w : World} {z b : Nat} {B : List Int} {ET : TypeId} {EA : Addr} {p s : Int} (h : In w z b B ET EA p s) (u : Unit) (hu : Hd (sel B p s = some u)) :
    Calls Tryz.prog 61 #[.pointer (some ⟨z, 0, none⟩)] w fun e w' => e = .returned (slv b s p) ∧ In w' z b B ET EA p p ∧ Fr z z w w' := by
  obtain ⟨hs, hsp, hp⟩ := sel_of hu
  obtain ⟨cp, hcp, hz⟩ := h.inp
  have h0 := (cell_of_block hz 0).trans rfl
  have h1 := (cell_of_block hz 1).trans rfl
  have h2 := (cell_of_block hz 2).trans rfl
  have f2 := frozen_of_block hz 2
  have hl := h.len
  clear hz
  unfold slv
  by_cases he : p.toNat = s.toNat
  all_goals
    simp only [he, if_true, if_false]
    go_enter Tryz.func61, Tryz.ntmps61
    go_wp2
    go_quiet (fail)
    go_wp2
    go_ret
    exact ⟨rfl, by first | exact (h.drewN _).setStart _ | exact (h.setStart _).drewN _, by first | exact ((Fr.refl z z w).drewN _).set _ _ | exact ((Fr.refl z z w).set _ _).drewN _⟩
end Go.Proofs.YtfcedenofbefcaaGreatDoor
